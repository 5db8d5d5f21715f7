import PyProof.Rows.All
import Wide.All
import OpenK.AllK
import Wide.FinOn
import PyProof.Rows.EqNone
import PySem.Challenge.RW_oy0424_01
set_option Elab.async false
set_option compiler.extract_closed false
set_option genInjectivity false
set_option genSizeOf false
namespace Mine.Internal
set_option linter.unusedVariables false
open PySem PySem.W PySem.Calls PyProof.Rows
section
open PySem PySem.W PyProof.Rows
noncomputable def runG (stp : SharedT → Thread → Option (SharedT × Thread)) (ok fin : Thread → Bool) : Nat → SharedT → Thread → Option SharedT
 | 0, _, _ => none
 | n + 1, s, t => match fin t with
  | true => some s
  | false => match ok t with
   | false => none
   | true => match stp s t with
    | some (s', t') => runG stp ok fin n s' t'
    | none => none
theorem runG_top {tb : String → Option Builtin} {p : Program} {w : World} {n₀ : Nat} {ann : Option Value} : ∀ (n : Nat) (s s' : SharedT) (t : Thread), runG (stepT (denote tb) p w) (stepOk n₀ ann) through n s t = some s' → topRun tb p w n₀ ann n s.abs t = some s'.abs
 | 0, _, _, _, h => by cases h
 | n + 1, s, s', t, h => by
  unfold runG at h
  unfold topRun
  cases ht : through t with
  | true => rw [ht] at h; cases h; rfl
  | false =>
   rw [ht] at h
   cases hk : stepOk n₀ ann t with
   | false => rw [hk] at h; cases h
   | true =>
    rw [hk] at h
    dsimp only at h ⊢
    cases hs : stepT (denote tb) p w s t with
    | none => rw [hs] at h; cases h
    | some x =>
     obtain ⟨s₁, t₁⟩ := x
     rw [hs] at h
     rw [stepT_spec hs]
     exact runG_top n s₁ s' t₁ h
noncomputable def exitB (t : Thread) : Bool := match t.atExitBegin with
 | some [] => true
 | _ => false
noncomputable def exitOk (t : Thread) : Bool := t.atExitBegin.isNone
theorem runG_imp {tb : String → Option Builtin} {p : Program} {w : World} : ∀ (n : Nat) (s s' : SharedT) (t : Thread), runG (stepT (denote tb) p w) exitOk exitB n s t = some s' → importEnds tb p w n s.abs t = some s'.abs
 | 0, _, _, _, h => by cases h
 | n + 1, s, s', t, h => by
  unfold runG at h
  unfold importEnds
  cases ht : t.atExitBegin with
  | some l =>
   cases l with
   | nil => rw [show exitB t = true from by unfold exitB; rw [ht]] at h; cases h; rfl
   | cons a b => rw [show exitB t = false from by unfold exitB; rw [ht], show exitOk t = false from by unfold exitOk; rw [ht]; rfl] at h; cases h
  | none =>
   rw [show exitB t = false from by unfold exitB; rw [ht], show exitOk t = true from by unfold exitOk; rw [ht]; rfl] at h
   dsimp only at h ⊢
   cases hs : stepT (denote tb) p w s t with
   | none => rw [hs] at h; cases h
   | some x =>
    obtain ⟨s₁, t₁⟩ := x
    rw [hs] at h
    rw [stepT_spec hs]
    exact runG_imp n s₁ s' t₁ h
noncomputable def grow : Nat → BT → List Obj → Option BT
 | _, T, [] => some T
 | n, T, o :: r => match ((T.ins n o).get n).isSome with
  | true => grow (n + 1) (T.ins n o) r
  | false => none
theorem grow_abs {life : Life} : ∀ (l : List Obj) (n : Nat) (T T' : BT) (h : Heap), absHeap T n life = h → grow n T l = some T' → absHeap T' (n + l.length) life = ⟨h.objs ++ l.toArray, h.life⟩
 | [], n, T, T', h, e, g => by
  cases g
  rw [← e]
  simp
 | o :: r, n, T, T', h, e, g => by
  unfold grow at g
  split at g
  ·rename_i q
   have := grow_abs r (n + 1) (T.ins n o) T' (h.push o) (by rw [absHeap_ins q, e]) g
   rw [List.length_cons, show n + (r.length + 1) = n + 1 + r.length by omega, this]
   show Heap.mk (h.objs.push o ++ r.toArray) _ = Heap.mk _ _
   congr 1
   apply Array.ext'
   simp
  ·cases g
noncomputable def treeS (s : Shared) : Option SharedT := (grow 0 .nil s.heap.objs.toList).map fun T => ⟨T, s.heap.objs.size, s.heap.life, s.gens, s.drawn, s.toks, s.os⟩
theorem treeS_abs {s : Shared} {t : SharedT} (h : treeS s = some t) : t.abs = s := by
 unfold treeS at h
 obtain ⟨T, g, rfl⟩ := Option.map_eq_some_iff.mp h
 obtain ⟨hh, gens, drawn, toks, os⟩ := s
 have := grow_abs (life := hh.life) hh.objs.toList 0 .nil T ⟨#[], hh.life⟩ (by show Heap.mk _ _ = _; simp [BT.list]) g
 show Shared.mk (absHeap T hh.objs.size hh.life) _ _ _ _ = _
 rw [show hh.objs.size = 0 + hh.objs.toList.length by simp, this]
 obtain ⟨objs, life⟩ := hh
 simp
noncomputable def wholeG (stp : Program → SharedT → Thread → Option (SharedT × Thread)) (ok : Nat → Option Value → Thread → Bool) (exOk exB : Thread → Bool) (fence : Shared → Option Shared) (st : Program → Shared × Thread) (stub : Thread) {β : Type} (p : Program) (nI N : Nat)
  (good : Heap → Shared → Bool) (obs : Shared → β) (annOf : Heap → Option Value) : Option β :=
 (treeS (st (opening p)).1).bind fun a => (runG (stp (opening p)) exOk exB nI a (st (opening p)).2).bind fun b => (fence b.abs).bind fun s₀ =>
  match s₀.heap.isNs mainGlobals && s₀.gens.size == 0 with
  | false => none
  | true => (treeS s₀).bind fun c => (runG (stp p) (ok s₀.heap.objs.size (annOf s₀.heap)) through N c stub).bind fun d =>
   match good s₀.heap d.abs with
   | false => none
   | true => some (obs d.abs)
noncomputable abbrev goodTop (p : Program) (h₀ : Heap) (s₁ : Shared) : Bool := staticsOk (importedModules p.main.body) h₀ s₁.heap && namesBound p s₁.heap && gensDone s₁ && laidKept h₀ s₁.heap
theorem importEnds_up {tb : String → Option Builtin} {p : Program} {w : World} {n m : Nat} (h : n ≤ m) {s r : Shared} {t : Thread} (e : importEnds tb p w n s t = some r) : importEnds tb p w m s t = some r := by
 have := importEnds_mono (m - n) _ _ _ _ e
 rwa [show n + (m - n) = m by omega] at this
theorem wholeG_open {p : Program} {w : World} {β : Type} {nI N : Nat} {obs : Shared → β} {r : β} (le : nI ≤ N)
  (h : wholeG (fun p => stepT (denote treeTable) p w) stepOk exitOk exitB (fenceModules? p) start (topStub p) p nI N (goodTop p) obs (fun h => h.nsMap mainGlobals "__annotations__") = some r) : (openEnds treeTable p w N).map obs = some r := by
 unfold wholeG at h
 obtain ⟨a, ha, h⟩ := Option.bind_eq_some_iff.mp h
 obtain ⟨b, hb, h⟩ := Option.bind_eq_some_iff.mp h
 obtain ⟨s₀, hs, h⟩ := Option.bind_eq_some_iff.mp h
 have e1 := importEnds_up le (runG_imp _ _ _ _ hb)
 rw [treeS_abs ha] at e1
 have e2 : fencedOpening treeTable p w N = some s₀ := by
  unfold fencedOpening
  rw [e1]
  exact hs
 split at h
 ·cases h
 ·rename_i q
  obtain ⟨c, hc, h⟩ := Option.bind_eq_some_iff.mp h
  obtain ⟨d, hd, h⟩ := Option.bind_eq_some_iff.mp h
  split at h
  ·cases h
  ·rename_i q2
   have e3 := runG_top _ _ _ _ hd
   rw [treeS_abs hc] at e3
   have e4 : topFrom treeTable p w N s₀ = some d.abs := by
    unfold topFrom
    rw [q, e3]
    show (match goodTop p s₀.heap d.abs with | true => some d.abs | false => none) = _
    rw [q2]
   unfold openEnds
   rw [e2]
   show (topFrom treeTable p w N s₀).map _ = _
   rw [e4]
   exact h
end
section
open PySem PySem.W PyProof.Rows
set_option maxRecDepth 1000000
noncomputable abbrev o (x : String) : Str := Str.ofString x
noncomputable abbrev r (a : Nat) : Value := .ref a
noncomputable abbrev prg : Program := PySem.Challenge.pw_oy0424_01
noncomputable def kv (P : Params) (x : Str) (t : Nat) (v : Value) : DictEntry := ⟨PyData.keyHash P x, .str x t, v⟩
noncomputable def topS (i : Nat) : Stmt := prg.main.body[i]?.getD default
noncomputable def clsB : Stmt → List Stmt
 | .ClassDef _ _ _ b _ _ _ _ _ _ _ => b
 | _ => []
noncomputable def metS (i j : Nat) : Stmt := (clsB (topS i))[j]?.getD default
noncomputable def fName : Stmt → Str
 | .FunctionDef n _ _ _ _ _ _ _ _ _ => n
 | _ => default
noncomputable def fArgs : Stmt → Arguments
 | .FunctionDef _ a _ _ _ _ _ _ _ _ => a
 | _ => ⟨[], [], none, [], [], none, []⟩
noncomputable def fBody : Stmt → List Stmt
 | .FunctionDef _ _ b _ _ _ _ _ _ _ => b
 | _ => []
noncomputable def fScope : Stmt → Scope
 | .FunctionDef _ _ _ _ _ _ s _ _ _ => s
 | _ => default
noncomputable def fnO (st : Stmt) (qual : Str) (dV pm cd : Value) : Obj :=
 ⟨.type "function", none, .func (fnOf (fName st) qual (fArgs st) (fBody st) (fScope st) dV .none .none pm none cd .none), #[]⟩
noncomputable def Kf (P : Params) : Frag := [
 (2, ⟨.none, none, .dict #[kv P (o "\x69mport.loaded._sre") 183 (.bool true), kv P (o "class._frozen_importlib.BuiltinImporter") 185 (r 14), kv P (o "watched.\x69mport") 206 (r 18), kv P (o "class._frozen_importlib.ModuleSpec") 216 (r 22), kv P (o "sys.modules.booked-epoch") 245 (.int 4 0), kv P (o "\x69mport.later-laid._sre") 270 (.bool true), kv P (o "watched.library") 272 (r 27), kv P (o "watched.library-objects") 0 (.str (Str.mk #[12, 30]) 0), kv P (o "watched.library-deep._sre") 273 (.str (Str.mk #[4, 0, 0, 11, 4, 0, 0, 11, 4, 0, 0, 3, 4, 0, 0, 11, 8, 4, 100, 105, 99, 116, 2]) 0), kv P (o "\x69mport.loaded._collections") 280 (.bool true), kv P (o "sys.modules.landed._collections") 294 (.bool true), kv P (o "\x69mport.later-laid._collections") 309 (.bool true), kv P (o "watched.library-deep._collections") 311 (.str (Str.mk #[4, 0, 0, 29, 4, 0, 0, 29, 4, 0, 0, 3, 4, 0, 0, 29, 8, 4, 100, 105, 99, 116, 2]) 0), kv P (o "type.__subclasses__.OSError.0") 519 (.int 150 0), kv P (o "type.__subclasses__.OSError.n") 520 (.int 1 0)] 15, #[]⟩),
 (3, ⟨.type "dict", none, .dict #[kv P (o "__name__") 165 (.str (o "law_oy0424_01") 1358), kv P (o "__doc__") 166 (.none), kv P (o "__package__") 167 (.none), kv P (o "__loader__") 168 (.builtin "__main__.__loader__#opaque"), kv P (o "__spec__") 169 (.none), kv P (o "__annotations__") 170 (r 6), kv P (o "__builtins__") 171 (r 4), kv P (o "__file__") 173 (.str (o "/claim/cut.py") 172), kv P (o "__cached__") 174 (.none), kv P (o "_sre") 275 (r 12), kv P (o "deque") 317 (.type "collections.deque"), kv P (o "_wall") 330 (r 44), kv P (o "Entry") 389 (r 82), kv P (o "merge_entries") 398 (r 93), kv P (o "heappush") 408 (r 100), kv P (o "heappop") 417 (r 107), kv P (o "_siftdown") 429 (r 114), kv P (o "_siftup") 442 (r 121), kv P (o "_twin_re_1") 482 (r 126), kv P (o "_whence") 492 (r 133), kv P (o "_index") 500 (r 140), kv P (o "UnsupportedOperation") 522 (r 150), kv P (o "IOBase") 554 (r 170), kv P (o "BufferedIOBase") 572 (r 185), kv P (o "TextIOBase") 590 (r 197), kv P (o "BytesIO") 852 (r 427), kv P (o "StringIO") 1139 (r 674), kv P (o "_kind") 1150 (r 683), kv P (o "_fspath") 1159 (r 690), kv P (o "_check_arg_types") 1169 (r 697), kv P (o "isabs") 1176 (r 704), kv P (o "join") 1187 (r 711), kv P (o "dirname") 1197 (r 718), kv P (o "shlex") 1338 (r 809), kv P (o "split") 1348 (r 821), kv P (o "_find_unsafe") 1350 (r 822), kv P (o "quote") 1357 (r 829), kv P (o "_law_word") 1368 (r 836), kv P (o "_law_rows") 1382 (r 843), kv P (o "_law_records") 1388 (r 848), kv P (o "_law_held") 1403 (r 855), kv P (o "_law_lines") 1421 (r 862), kv P (o "_law_pairs") 1427 (r 869), kv P (o "_law_pages") 1433 (r 874), kv P (o "_law_written") 1439 (r 879), kv P (o "law") 1445 (r 884)] 46, #[]⟩),
 (57, ⟨.type "code", none, .fields #[.str (o "__init__") 345, .str (o "Entry.__init__") 346, .str (o "/claim/cut.py") 347, .int 9 0, .int 1 0, .int 0 0, .int 0 0, .int 3 0, r 52, .bool true, .int 318 0, r 53, .none, r 54, r 55, r 56, .int 349 0, .int 9 0, .str (o "/claim/cut.py") 350], #[]⟩),
 (58, fnO (metS 4 0) (o "Entry.__init__") (.none) (.str (o "cpy313.urllib.robotparser") 331) (r 57)),
 (64, ⟨.type "code", none, .fields #[.str (o "__str__") 352, .str (o "Entry.__str__") 353, .str (o "/claim/cut.py") 354, .int 15 0, .int 1 0, .int 0 0, .int 0 0, .int 3 0, r 59, .bool true, .int 318 0, r 60, .none, r 61, r 62, r 63, .int 359 0, .int 15 0, .str (o "/claim/cut.py") 360], #[]⟩),
 (65, fnO (metS 4 1) (o "Entry.__str__") (.none) (.str (o "cpy313.urllib.robotparser") 331) (r 64)),
 (81, ⟨.type "dict", none, .dict #[kv P (o "__module__") 340 (.str (o "cpy313.urllib.robotparser") 331), kv P (o "__firstlineno__") 344 (.int 7 343), kv P (o "__init__") 351 (r 58), kv P (o "__str__") 361 (r 65), kv P (o "applies_to") 369 (r 72), kv P (o "allowance") 377 (r 79), kv P (o "__static_attributes__") 382 (r 80), kv P (o "__dict__") 384 (r 83), kv P (o "__weakref__") 386 (r 84), kv P (o "__doc__") 387 (.none)] 4, #[]⟩),
 (82, ⟨.type "type", none, .cls { name := (o "Entry"), qualname := (o "Entry"), bases := [.type "object"], mro := [r 82, .type "object"], ns := 81 }, #[none, none, some (.str (o "Entry") 333), some (.str (o "Entry") 341), some (.builtin "object.__new__"), some (.bool true)]⟩),
 (92, ⟨.type "code", none, .fields #[.str (o "merge_entries") 390, .str (o "merge_entries") 391, .str (o "/claim/cut.py") 392, .int 37 0, .int 2 0, .int 0 0, .int 0 0, .int 3 0, r 87, .bool true, .int 318 0, r 88, .none, r 89, r 90, r 91, .int 396 0, .int 37 0, .str (o "/claim/cut.py") 397], #[]⟩),
 (93, fnO (topS 5) (o "merge_entries") (.none) (.str (o "cpy313.urllib.robotparser") 331) (r 92)),
 (99, ⟨.type "code", none, .fields #[.str (o "heappush") 401, .str (o "heappush") 402, .str (o "/claim/cut.py") 403, .int 45 0, .int 2 0, .int 0 0, .int 0 0, .int 3 0, r 94, .bool true, .int 318 0, r 95, .none, r 96, r 97, r 98, .int 406 0, .int 45 0, .str (o "/claim/cut.py") 407], #[]⟩),
 (100, fnO (topS 7) (o "heappush") (.none) (.str (o "cpy313.heapq") 399) (r 99)),
 (106, ⟨.type "code", none, .fields #[.str (o "heappop") 409, .str (o "heappop") 410, .str (o "/claim/cut.py") 411, .int 48 0, .int 1 0, .int 0 0, .int 0 0, .int 3 0, r 101, .bool true, .int 318 0, r 102, .none, r 103, r 104, r 105, .int 415 0, .int 48 0, .str (o "/claim/cut.py") 416], #[]⟩),
 (107, fnO (topS 8) (o "heappop") (.none) (.str (o "cpy313.heapq") 399) (r 106)),
 (113, ⟨.type "code", none, .fields #[.str (o "_siftdown") 418, .str (o "_siftdown") 419, .str (o "/claim/cut.py") 420, .int 56 0, .int 3 0, .int 0 0, .int 0 0, .int 3 0, r 108, .bool true, .int 318 0, r 109, .none, r 110, r 111, r 112, .int 427 0, .int 56 0, .str (o "/claim/cut.py") 428], #[]⟩),
 (114, fnO (topS 9) (o "_siftdown") (.none) (.str (o "cpy313.heapq") 399) (r 113)),
 (120, ⟨.type "code", none, .fields #[.str (o "_siftup") 430, .str (o "_siftup") 431, .str (o "/claim/cut.py") 432, .int 67 0, .int 2 0, .int 0 0, .int 0 0, .int 3 0, r 115, .bool true, .int 318 0, r 116, .none, r 117, r 118, r 119, .int 440 0, .int 67 0, .str (o "/claim/cut.py") 441], #[]⟩),
 (121, fnO (topS 10) (o "_siftup") (.none) (.str (o "cpy313.heapq") 399) (r 120)),
 (125, ⟨.type "tuple", none, .seq #[.int 14 0, .int 17 0, .int 4 0, .int 1 0, .int 1 0, .int 21 0, .int 9 0, .int 0 0, .int 604043296 0, .int 1 0, .int 0 0, .int 0 0, .int 0 0, .int 0 0, .int 0 0, .int 8 0, .int 4 0, .int 0 0, .int 13 0, .int 14 0, .int 21 0, .int 9 0, .int 0 0, .int 604043296 0, .int 1 0, .int 0 0, .int 0 0, .int 0 0, .int 0 0, .int 0 0, .int 8 0, .int 4 0, .int 0 0, .int 1 0] 0, #[]⟩),
 (126, ⟨.type "re.Pattern", none, .fields #[.str (Str.mk #[91, 94, 92, 119, 64, 37, 43, 61, 58, 44, 46, 47, 45, 93]) 444, .int 256 481, .int 0 0, .none, .none, r 125, .int 0 0], #[]⟩),
 (139, ⟨.type "code", none, .fields #[.str (o "_index") 493, .str (o "_index") 494, .str (o "/claim/cut.py") 495, .int 88 0, .int 2 0, .int 0 0, .int 0 0, .int 3 0, r 134, .bool true, .int 318 0, r 135, .none, r 136, r 137, r 138, .int 498 0, .int 88 0, .str (o "/claim/cut.py") 499], #[]⟩),
 (140, fnO (topS 14) (o "_index") (.none) (.str (o "io") 483) (r 139)),
 (166, ⟨.type "code", none, .fields #[.str (o "__new__") 537, .str (o "IOBase.__new__") 538, .str (o "/claim/cut.py") 539, .int 100 0, .int 1 0, .int 1 0, .int 0 0, .int 15 0, r 161, .bool true, .int 318 0, r 162, .none, r 163, r 164, r 165, .int 543 0, .int 100 0, .str (o "/claim/cut.py") 544], #[]⟩),
 (167, fnO (metS 16 1) (o "IOBase.__new__") (.none) (.str (o "io") 483) (r 166)),
 (169, ⟨.type "dict", none, .dict #[kv P (o "__module__") 530 (.str (o "io") 535), kv P (o "__firstlineno__") 534 (.int 97 533), kv P (o "__new__") 545 (r 171), kv P (o "__static_attributes__") 546 (r 168), kv P (o "__dict__") 549 (r 172), kv P (o "__weakref__") 551 (r 173), kv P (o "__doc__") 552 (.none)] 4, #[]⟩),
 (170, ⟨.type "type", none, .cls { name := (o "IOBase"), qualname := (o "IOBase"), bases := [.type "object"], mro := [r 170, .type "object"], ns := 169, subclasses := [r 185, r 197] }, #[none, none, some (.str (o "IOBase") 523), some (.str (o "IOBase") 531), some (.none), some (.bool true)]⟩),
 (171, ⟨.type "staticmethod", none, .fields #[r 167], #[]⟩),
 (196, ⟨.type "dict", none, .dict #[kv P (o "__module__") 580 (.str (o "io") 585), kv P (o "__firstlineno__") 584 (.int 106 583), kv P (o "__static_attributes__") 587 (r 195), kv P (o "__doc__") 588 (.none)] 2, #[]⟩),
 (197, ⟨.type "type", none, .cls { name := (o "TextIOBase"), qualname := (o "TextIOBase"), bases := [r 170], mro := [r 197, r 170, .type "object"], ns := 196, subclasses := [r 674] }, #[some (r 188), none, some (.str (o "TextIOBase") 573), some (.str (o "TextIOBase") 581), some (.none), some (.bool true)]⟩),
 (427, ⟨.type "type", none, .cls { name := (o "BytesIO"), qualname := (o "BytesIO"), bases := [r 185], mro := [r 427, r 185, r 170, .type "object"], ns := 426 }, #[some (r 200), none, some (.str (o "BytesIO") 591), some (.str (o "BytesIO") 599), some (.none), some (.bool true)]⟩),
 (437, ⟨.type "tuple", none, .seq #[.str (o "") 867, .str (Str.mk #[10]) 868] 0, #[]⟩),
 (443, ⟨.type "code", none, .fields #[.str (o "__init__") 869, .str (o "StringIO.__init__") 870, .str (o "/claim/cut.py") 871, .int 281 0, .int 3 0, .int 0 0, .int 0 0, .int 3 0, r 438, .bool true, .int 318 0, r 439, .none, r 440, r 441, r 442, .int 875 0, .int 281 0, .str (o "/claim/cut.py") 876], #[]⟩),
 (444, fnO (metS 20 1) (o "StringIO.__init__") (r 437) (.str (o "io") 483) (r 443)),
 (450, ⟨.type "code", none, .fields #[.str (o "__translated") 878, .str (o "StringIO.__translated") 879, .str (o "/claim/cut.py") 880, .int 294 0, .int 2 0, .int 0 0, .int 0 0, .int 3 0, r 445, .bool true, .int 318 0, r 446, .none, r 447, r 448, r 449, .int 884 0, .int 294 0, .str (o "/claim/cut.py") 885], #[]⟩),
 (451, fnO (metS 20 2) (o "StringIO.__translated") (.none) (.str (o "io") 483) (r 450)),
 (457, ⟨.type "code", none, .fields #[.str (o "__check") 887, .str (o "StringIO.__check") 888, .str (o "/claim/cut.py") 889, .int 302 0, .int 1 0, .int 0 0, .int 0 0, .int 3 0, r 452, .bool true, .int 318 0, r 453, .none, r 454, r 455, r 456, .int 891 0, .int 302 0, .str (o "/claim/cut.py") 892], #[]⟩),
 (458, fnO (metS 20 3) (o "StringIO.__check") (.none) (.str (o "io") 483) (r 457)),
 (471, ⟨.type "code", none, .fields #[.str (o "__line") 901, .str (o "StringIO.__line") 902, .str (o "/claim/cut.py") 903, .int 310 0, .int 2 0, .int 0 0, .int 0 0, .int 3 0, r 466, .bool true, .int 318 0, r 467, .none, r 468, r 469, r 470, .int 913 0, .int 310 0, .str (o "/claim/cut.py") 914], #[]⟩),
 (472, fnO (metS 20 5) (o "StringIO.__line") (.none) (.str (o "io") 483) (r 471)),
 (613, ⟨.type "tuple", none, .seq #[.int (-1) 1060] 0, #[]⟩),
 (619, ⟨.type "code", none, .fields #[.str (o "read") 1061, .str (o "StringIO.read") 1062, .str (o "/claim/cut.py") 1063, .int 424 0, .int 2 0, .int 2 0, .int 0 0, .int 3 0, r 614, .bool true, .int 318 0, r 615, .none, r 616, r 617, r 618, .int 1068 0, .int 424 0, .str (o "/claim/cut.py") 1069], #[]⟩),
 (620, fnO (metS 20 25) (o "StringIO.read") (r 613) (.str (o "io") 483) (r 619)),
 (621, ⟨.type "tuple", none, .seq #[.int (-1) 1072] 0, #[]⟩),
 (627, ⟨.type "code", none, .fields #[.str (o "readline") 1073, .str (o "StringIO.readline") 1074, .str (o "/claim/cut.py") 1075, .int 438 0, .int 2 0, .int 2 0, .int 0 0, .int 3 0, r 622, .bool true, .int 318 0, r 623, .none, r 624, r 625, r 626, .int 1078 0, .int 438 0, .str (o "/claim/cut.py") 1079], #[]⟩),
 (628, fnO (metS 20 26) (o "StringIO.readline") (r 621) (.str (o "io") 483) (r 627)),
 (673, ⟨.type "dict", none, .dict #[kv P (o "__module__") 860 (.str (o "_io") 865), kv P (o "__firstlineno__") 864 (.int 278 863), kv P (o "__init__") 877 (r 444), kv P (o "_StringIO__translated") 886 (r 451), kv P (o "_StringIO__check") 893 (r 458), kv P (o "_StringIO__check_dot") 900 (r 465), kv P (o "_StringIO__line") 915 (r 472), kv P (o "closed") 923 (r 480), kv P (o "line_buffering") 931 (r 488), kv P (o "newlines") 939 (r 496), kv P (o "encoding") 947 (r 504), kv P (o "errors") 955 (r 512), kv P (o "close") 962 (r 519), kv P (o "__enter__") 969 (r 526), kv P (o "__exit__") 977 (r 533), kv P (o "readable") 984 (r 540), kv P (o "writable") 991 (r 547), kv P (o "seekable") 998 (r 554), kv P (o "isatty") 1005 (r 561), kv P (o "flush") 1012 (r 568), kv P (o "fileno") 1019 (r 575), kv P (o "detach") 1026 (r 582), kv P (o "getvalue") 1033 (r 589), kv P (o "tell") 1040 (r 596), kv P (o "seek") 1050 (r 604), kv P (o "truncate") 1058 (r 612), kv P (o "read") 1070 (r 620), kv P (o "readline") 1080 (r 628), kv P (o "readlines") 1090 (r 636), kv P (o "__iter__") 1097 (r 643), kv P (o "__next__") 1105 (r 650), kv P (o "write") 1117 (r 657), kv P (o "writelines") 1125 (r 664), kv P (o "__repr__") 1132 (r 671), kv P (o "__static_attributes__") 1136 (r 672), kv P (o "__doc__") 1137 (.none)] 2, #[]⟩),
 (674, ⟨.type "type", none, .cls { name := (o "StringIO"), qualname := (o "StringIO"), bases := [r 197], mro := [r 674, r 197, r 170, .type "object"], ns := 673 }, #[some (r 430), none, some (.str (o "StringIO") 853), some (.str (o "StringIO") 861), some (.none), some (.bool true)]⟩),
 (726, ⟨.type "tuple", none, .seq #[.none, .none, .bool false, .bool false] 0, #[]⟩),
 (732, ⟨.type "code", none, .fields #[.str (o "__init__") 1212, .str (o "shlex.__init__") 1213, .str (o "/claim/cut.py") 1214, .int 549 0, .int 5 0, .int 0 0, .int 0 0, .int 3 0, r 727, .bool true, .int 318 0, r 728, .none, r 729, r 730, r 731, .int 1221 0, .int 549 0, .str (o "/claim/cut.py") 1222], #[]⟩),
 (733, fnO (metS 29 0) (o "shlex.__init__") (r 726) (.str (o "cpy313.shlex") 1198) (r 732)),
 (739, ⟨.type "code", none, .fields #[.str (o "punctuation_chars") 1224, .str (o "shlex.punctuation_chars") 1225, .str (o "/claim/cut.py") 1226, .int 590 0, .int 1 0, .int 0 0, .int 0 0, .int 3 0, r 734, .bool true, .int 318 0, r 735, .none, r 736, r 737, r 738, .int 1228 0, .int 590 0, .str (o "/claim/cut.py") 1229], #[]⟩),
 (740, fnO (metS 29 1) (o "shlex.punctuation_chars") (.none) (.str (o "cpy313.shlex") 1198) (r 739)),
 (741, ⟨.type "property", none, .fields #[r 740, .none, .none, .none, .str (o "punctuation_chars") 1231, .bool false], #[]⟩),
 (769, ⟨.type "code", none, .fields #[.str (o "get_token") 1256, .str (o "shlex.get_token") 1257, .str (o "/claim/cut.py") 1258, .int 617 0, .int 1 0, .int 0 0, .int 0 0, .int 3 0, r 764, .bool true, .int 318 0, r 765, .none, r 766, r 767, r 768, .int 1265 0, .int 617 0, .str (o "/claim/cut.py") 1266], #[]⟩),
 (770, fnO (metS 29 5) (o "shlex.get_token") (.none) (.str (o "cpy313.shlex") 1198) (r 769)),
 (776, ⟨.type "code", none, .fields #[.str (o "read_token") 1268, .str (o "shlex.read_token") 1269, .str (o "/claim/cut.py") 1270, .int 644 0, .int 1 0, .int 0 0, .int 0 0, .int 3 0, r 771, .bool true, .int 318 0, r 772, .none, r 773, r 774, r 775, .int 1276 0, .int 644 0, .str (o "/claim/cut.py") 1277], #[]⟩),
 (777, fnO (metS 29 6) (o "shlex.read_token") (.none) (.str (o "cpy313.shlex") 1198) (r 776)),
 (798, ⟨.type "code", none, .fields #[.str (o "__iter__") 1296, .str (o "shlex.__iter__") 1297, .str (o "/claim/cut.py") 1298, .int 791 0, .int 1 0, .int 0 0, .int 0 0, .int 3 0, r 793, .bool true, .int 318 0, r 794, .none, r 795, r 796, r 797, .int 1300 0, .int 791 0, .str (o "/claim/cut.py") 1301], #[]⟩),
 (799, fnO (metS 29 9) (o "shlex.__iter__") (.none) (.str (o "cpy313.shlex") 1198) (r 798)),
 (805, ⟨.type "code", none, .fields #[.str (o "__next__") 1303, .str (o "shlex.__next__") 1304, .str (o "/claim/cut.py") 1305, .int 794 0, .int 1 0, .int 0 0, .int 0 0, .int 3 0, r 800, .bool true, .int 318 0, r 801, .none, r 802, r 803, r 804, .int 1308 0, .int 794 0, .str (o "/claim/cut.py") 1309], #[]⟩),
 (806, fnO (metS 29 10) (o "shlex.__next__") (.none) (.str (o "cpy313.shlex") 1198) (r 805)),
 (808, ⟨.type "dict", none, .dict #[kv P (o "__module__") 1207 (.str (o "cpy313.shlex") 1198), kv P (o "__firstlineno__") 1211 (.int 547 1210), kv P (o "__init__") 1223 (r 733), kv P (o "punctuation_chars") 1231 (r 741), kv P (o "push_token") 1239 (r 748), kv P (o "push_source") 1248 (r 756), kv P (o "pop_source") 1255 (r 763), kv P (o "get_token") 1267 (r 770), kv P (o "read_token") 1278 (r 777), kv P (o "sourcehook") 1286 (r 784), kv P (o "error_leader") 1295 (r 792), kv P (o "__iter__") 1302 (r 799), kv P (o "__next__") 1310 (r 806), kv P (o "__static_attributes__") 1331 (r 807), kv P (o "__dict__") 1333 (r 810), kv P (o "__weakref__") 1335 (r 811), kv P (o "__doc__") 1336 (.none)] 4, #[]⟩),
 (809, ⟨.type "type", none, .cls { name := (o "shlex"), qualname := (o "shlex"), bases := [.type "object"], mro := [r 809, .type "object"], ns := 808 }, #[none, none, some (.str (o "shlex") 1200), some (.str (o "shlex") 1208), some (.builtin "object.__new__"), some (.bool true)]⟩),
 (814, ⟨.type "tuple", none, .seq #[.bool false, .bool true] 0, #[]⟩),
 (820, ⟨.type "code", none, .fields #[.str (o "split") 1339, .str (o "split") 1340, .str (o "/claim/cut.py") 1341, .int 799 0, .int 3 0, .int 0 0, .int 0 0, .int 3 0, r 815, .bool true, .int 318 0, r 816, .none, r 817, r 818, r 819, .int 1346 0, .int 799 0, .str (o "/claim/cut.py") 1347], #[]⟩),
 (821, fnO (topS 30) (o "split") (r 814) (.str (o "cpy313.shlex") 1198) (r 820)),
 (822, ⟨.type "builtin_function_or_method", none, .fields #[.builtin "re.Pattern.search", r 126], #[]⟩),
 (828, ⟨.type "code", none, .fields #[.str (o "quote") 1351, .str (o "quote") 1352, .str (o "/claim/cut.py") 1353, .int 808 0, .int 1 0, .int 0 0, .int 0 0, .int 3 0, r 823, .bool true, .int 318 0, r 824, .none, r 825, r 826, r 827, .int 1355 0, .int 808 0, .str (o "/claim/cut.py") 1356], #[]⟩),
 (829, fnO (topS 32) (o "quote") (.none) (.str (o "cpy313.shlex") 1198) (r 828)),
 (835, ⟨.type "code", none, .fields #[.str (o "_law_word") 1360, .str (o "_law_word") 1361, .str (o "/claim/cut.py") 1362, .int 815 0, .int 1 0, .int 0 0, .int 0 0, .int 3 0, r 830, .bool true, .int 318 0, r 831, .none, r 832, r 833, r 834, .int 1366 0, .int 815 0, .str (o "/claim/cut.py") 1367], #[]⟩),
 (836, fnO (topS 34) (o "_law_word") (.none) (.str (o "law_oy0424_01") 1358) (r 835)),
 (842, ⟨.type "code", none, .fields #[.str (o "_law_rows") 1369, .str (o "_law_rows") 1370, .str (o "/claim/cut.py") 1371, .int 820 0, .int 1 0, .int 0 0, .int 0 0, .int 3 0, r 837, .bool true, .int 318 0, r 838, .none, r 839, r 840, r 841, .int 1380 0, .int 820 0, .str (o "/claim/cut.py") 1381], #[]⟩),
 (843, fnO (topS 35) (o "_law_rows") (.none) (.str (o "law_oy0424_01") 1358) (r 842)),
 (847, ⟨.type "code", none, .fields #[.str (o "_law_records") 1383, .str (o "_law_records") 1384, .str (o "/claim/cut.py") 1385, .int 842 0, .int 1 0, .int 0 0, .int 0 0, .int 3 0, r 844, .bool true, .int 318 0, r 845, .none, .none, .none, r 846, .int 1386 0, .int 842 0, .str (o "/claim/cut.py") 1387], #[]⟩),
 (848, fnO (topS 36) (o "_law_records") (.none) (.str (o "law_oy0424_01") 1358) (r 847)),
 (854, ⟨.type "code", none, .fields #[.str (o "_law_held") 1389, .str (o "_law_held") 1390, .str (o "/claim/cut.py") 1391, .int 855 0, .int 2 0, .int 0 0, .int 0 0, .int 3 0, r 849, .bool true, .int 318 0, r 850, .none, r 851, r 852, r 853, .int 1401 0, .int 855 0, .str (o "/claim/cut.py") 1402], #[]⟩),
 (855, fnO (topS 37) (o "_law_held") (.none) (.str (o "law_oy0424_01") 1358) (r 854)),
 (861, ⟨.type "code", none, .fields #[.str (o "_law_lines") 1404, .str (o "_law_lines") 1405, .str (o "/claim/cut.py") 1406, .int 873 0, .int 2 0, .int 0 0, .int 0 0, .int 3 0, r 856, .bool true, .int 318 0, r 857, .none, r 858, r 859, r 860, .int 1419 0, .int 873 0, .str (o "/claim/cut.py") 1420], #[]⟩),
 (862, fnO (topS 38) (o "_law_lines") (.none) (.str (o "law_oy0424_01") 1358) (r 861)),
 (868, ⟨.type "code", none, .fields #[.str (o "_law_pairs") 1422, .str (o "_law_pairs") 1423, .str (o "/claim/cut.py") 1424, .int 884 0, .int 0 0, .int 0 0, .int 0 0, .int 3 0, r 863, .bool true, .int 318 0, r 864, .none, r 865, r 866, r 867, .int 1425 0, .int 884 0, .str (o "/claim/cut.py") 1426], #[]⟩),
 (869, fnO (topS 39) (o "_law_pairs") (.none) (.str (o "law_oy0424_01") 1358) (r 868)),
 (873, ⟨.type "code", none, .fields #[.str (o "_law_pages") 1428, .str (o "_law_pages") 1429, .str (o "/claim/cut.py") 1430, .int 886 0, .int 1 0, .int 0 0, .int 0 0, .int 3 0, r 870, .bool true, .int 318 0, r 871, .none, .none, .none, r 872, .int 1431 0, .int 886 0, .str (o "/claim/cut.py") 1432], #[]⟩),
 (874, fnO (topS 40) (o "_law_pages") (.none) (.str (o "law_oy0424_01") 1358) (r 873)),
 (878, ⟨.type "code", none, .fields #[.str (o "_law_written") 1434, .str (o "_law_written") 1435, .str (o "/claim/cut.py") 1436, .int 892 0, .int 1 0, .int 0 0, .int 0 0, .int 3 0, r 875, .bool true, .int 318 0, r 876, .none, .none, .none, r 877, .int 1437 0, .int 892 0, .str (o "/claim/cut.py") 1438], #[]⟩),
 (879, fnO (topS 41) (o "_law_written") (.none) (.str (o "law_oy0424_01") 1358) (r 878)),
 (883, ⟨.type "code", none, .fields #[.str (o "law") 1440, .str (o "law") 1441, .str (o "/claim/cut.py") 1442, .int 900 0, .int 1 0, .int 0 0, .int 0 0, .int 3 0, r 880, .bool true, .int 318 0, r 881, .none, .none, .none, r 882, .int 1443 0, .int 900 0, .str (o "/claim/cut.py") 1444], #[]⟩),
 (884, fnO (topS 42) (o "law") (.none) (.str (o "law_oy0424_01") 1358) (r 883))]
noncomputable def KAs : List Addr := [2, 3, 57, 58, 64, 65, 81, 82, 92, 93, 99, 100, 106, 107, 113, 114, 120, 121, 125, 126, 139, 140, 166, 167, 169, 170, 171, 196, 197, 427, 437, 443, 444, 450, 451, 457, 458, 471, 472, 613, 619, 620, 621, 627, 628, 673, 674, 726, 732, 733, 739, 740, 741, 769, 770, 776, 777, 798, 799, 805, 806, 808, 809, 814, 820, 821, 822, 828, 829, 835, 836, 842, 843, 847, 848, 854, 855, 861, 862, 868, 869, 873, 874, 878, 879, 883, 884]
theorem KAs_eq : ∀ P, KAs = (Kf P).map (·.1) := fun _ => rfl
noncomputable abbrev H : Hook := kHook Kf KAs KAs_eq
noncomputable def qv : Program := { prg with main := { prg.main with body := [topS 0, topS 1, topS 42] } }
noncomputable def lv : List Str := [o "_wall", o "Entry", o "merge_entries", o "heappush", o "heappop", o "_siftdown", o "_siftup", o "_twin_re_1", o "_whence", o "_index", o "UnsupportedOperation", o "IOBase", o "BufferedIOBase", o "TextIOBase", o "BytesIO", o "StringIO", o "_kind", o "_fspath", o "_check_arg_types", o "isabs", o "join", o "dirname", o "shlex", o "split", o "_find_unsafe", o "quote", o "_law_word", o "_law_rows", o "_law_records", o "_law_held", o "_law_lines", o "_law_pairs", o "_law_pages", o "_law_written"]
noncomputable abbrev rw0 : OpenLaw := PySem.Challenge.rw_oy0424_01
noncomputable abbrev Xt : Shared → Bool := fun s => xlAt qv [] s && recOk (RowW.records rw0.row.toRowW) s
theorem big : ∀ w, wholeG (fun p => PySem.W.Fast.tw10156331382660048174 (PySem.W.Fast.tw11892475500146522536 PySem.W.Fast.tw14364793385576792824) p w) PySem.W.Fast.tw6613529449190102663 exitOk exitB (PySem.W.Fast.tw14289696077712309145 prg) PySem.W.Fast.tw1435165496053646825 (topStub prg) prg 2000 11408 (goodTop prg)
  (fun s => (PySem.W.Fast.tw4187177175401517315 qv lv (importedModules prg.main.body) Xt true s, Hook.obs H s)) (fun h => h.nsMap mainGlobals "__annotations__") = some (openGood qv lv, Hook.val H w) := fun w => by kernel_rfl
end
section
open PySem PySem.W PyProof.Rows
set_option maxRecDepth 1000000
theorem left0 : LeftO rw0.row.toRowW.prog qv lv Xt (Hook.obs H) (Hook.val H) 11408 := by
 intro w
 have h := big w
 rw [← PySem.W.Fast.te10156331382660048174, ← PySem.W.Fast.te11892475500146522536, ← PySem.W.Fast.te14364793385576792824, ← PySem.W.Fast.te6613529449190102663, ← PySem.W.Fast.te14289696077712309145, ← PySem.W.Fast.te1435165496053646825, ← PySem.W.Fast.te4187177175401517315] at h
 exact wholeG_open (by decide) h
theorem ws : PySem.Challenge.rw_oy0424_01.wellSaid = true := (congrFun PySem.W.Fast.te9446332074065402090 _).trans (by kernel_rfl)
end
section
theorem last_idx (n : Nat) : (-1 + (n : Int)).toNat = n - 1 := by rw [Int.add_comm]; exact Int.toNat_sub n 1
theorem half {n : Nat} (h : 0 < n) : ((n : Int) - 1) / 2 = (((n - 1) / 2 : Nat) : Int) := by
 cases n with
 | zero => cases h
 | succ k => show ((k : Int) + 1 - 1) / 2 = _; rw [Int.add_sub_cancel]; rfl
theorem kid {i p : Nat} (h : 0 < i) (e : (i - 1) / 2 = p) : i = 2 * p + 1 ∨ i = 2 * p + 2 := by
 cases i with
 | zero => cases h
 | succ k =>
  subst e
  have := Nat.div_add_mod k 2
  rcases Nat.mod_two_eq_zero_or_one k with q | q
  ·rw [q] at this; exact .inl (congrArg (· + 1) this.symm)
  ·rw [q] at this; exact .inr (congrArg (· + 1) this.symm)
theorem bigI {i p n : Nat} (h0 : ¬ 2 * p + 1 < n) (hi : 0 < i) (e : (i - 1) / 2 = p) : ¬ i < n := fun q => by
 rcases kid hi e with rfl | rfl
 ·exact h0 q
 ·exact h0 (Nat.lt_of_succ_lt q)
theorem sum_fit {s t a b : Nat} (h1 : s ≤ a * 80) (h2 : a ≤ 62) (h3 : t ≤ b * 250000) (h4 : b ≤ 60) : s + t + (a + b) * 1 ≤ 16777216 :=
 Nat.le_trans (Nat.add_le_add (Nat.add_le_add (Nat.le_trans h1 (Nat.mul_le_mul_right 80 h2)) (Nat.le_trans h3 (Nat.mul_le_mul_right _ h4))) (Nat.mul_le_mul_right 1 (Nat.add_le_add h2 h4))) (by decide)
theorem par_lt' {i n : Nat} (h : i < n) : (i - 1) / 2 < n := Nat.lt_of_le_of_lt (Nat.le_trans (Nat.div_le_self ..) (Nat.sub_le ..)) h
theorem near_room {a d r N : Nat} (h : d + r ≤ N) (k : a ≤ d + 1) (q : 1 ≤ r) : a + (r - 1) ≤ N := by
 cases r with
 | zero => cases q
 | succ r => exact Nat.le_trans (Nat.add_le_add_right k r) (Nat.le_trans (Nat.le_of_eq (Nat.add_right_comm d 1 r)) h)
theorem near_units {a u r : Nat} (h : u + 20 * r ≤ 9000) (k : a ≤ u + 20) (q : 1 ≤ r) : a + 20 * (r - 1) ≤ 9000 := by
 cases r with
 | zero => cases q
 | succ r => exact Nat.le_trans (Nat.add_le_add_right k (20 * r)) (Nat.le_trans (Nat.le_of_eq (Nat.add_right_comm u 20 (20 * r))) h)
theorem room_lt {a r N : Nat} (h : a + r ≤ N) (k : 1 ≤ r) : a < N := Nat.lt_of_lt_of_le (Nat.lt_add_of_pos_right k) h
theorem room_deep {a r N : Nat} (h : a + r ≤ N) (q : 1 ≤ r) : a + 1 + (r - 1) ≤ N := near_room h (Nat.le_refl _) q
theorem units_deep {u r : Nat} (h : u + 20 * r ≤ 9000) (q : 1 ≤ r) : u + 3 + 20 * (r - 1) ≤ 9000 := near_units h (Nat.add_le_add_left (by decide) u) q
theorem units_lt {u r k : Nat} (h : u + 20 * r ≤ 9000) (q : k < 900) : u + k < 9900 := Nat.add_lt_add_of_le_of_lt (Nat.le_trans (Nat.le_add_right ..) h) q
theorem end_idx {α : Type} {xs : List α} {i : Nat} (hx : xs[i]? = none) (hi : i ≤ xs.length) : i = xs.length := Nat.le_antisymm hi (List.getElem?_eq_none_iff.mp hx)
theorem sub1_lt {n i : Nat} (h : i < n) : n - (i + 1) < n - i := Nat.sub_lt_sub_left h (Nat.lt_succ_self i)
theorem toNat_lt {k : Int} {n : Nat} (h : 0 ≤ k ∧ k < n) : k.toNat < n := (Int.toNat_lt h.1).mpr h.2
theorem lt_toNat {k : Int} {n : Nat} (h0 : 0 ≤ k) (h : k.toNat < n) : k < n := (Int.toNat_lt h0).mp h
theorem one_of {m n : Nat} (h : m - n < 1) (k : n ≤ m) : m = n := Nat.le_antisymm (Nat.le_of_sub_eq_zero (Nat.lt_one_iff.mp h)) k
end
section
inductive AV where
 | none
 | bool (b : Bool)
 | int (i : Int)
 | str (s : Str)
 | ref (a : Addr)
 | blt (id : String)
 | typ (n : String)
noncomputable def VRel : AV → Value → Prop
 | .none, v => v = .none
 | .bool b, v => v = .bool b
 | .int i, v => ∃ t, v = .int i t
 | .str s, v => ∃ t, v = .str s t
 | .ref a, v => v = .ref a
 | .blt i, v => v = .builtin i
 | .typ n, v => v = .type n
inductive VRels : List AV → List Value → Prop
 | nil : VRels [] []
 | cons {a : AV} {v : Value} {as : List AV} {vs : List Value} (h : VRel a v) (t : VRels as vs) : VRels (a :: as) (v :: vs)
theorem VRels.length {as : List AV} {vs : List Value} (h : VRels as vs) : as.length = vs.length := by
 induction h with
 | nil => rfl
 | cons _ _ ih => simp [ih]
theorem VRels.get {as : List AV} {vs : List Value} (h : VRels as vs) : ∀ {i : Nat} {a : AV}, as[i]? = some a → ∃ v, vs[i]? = some v ∧ VRel a v := by
 induction h with
 | nil => intro i a e; simp at e
 | cons hh _ ih =>
  intro i a e
  cases i with
  | zero => simp at e; subst e; exact ⟨_, rfl, hh⟩
  | succ i => simp at e; obtain ⟨v, hv, r⟩ := ih e; exact ⟨v, by simpa using hv, r⟩
theorem VRels.append {as bs : List AV} {vs ws : List Value} (h : VRels as vs) (k : VRels bs ws) : VRels (as ++ bs) (vs ++ ws) := by
 induction h with
 | nil => exact k
 | cons h _ ih => exact .cons h ih
theorem VRels.set {as : List AV} {vs : List Value} (h : VRels as vs) {b : AV} {w : Value} (hb : VRel b w) : ∀ (i : Nat), VRels (as.set i b) (vs.set i w) := by
 induction h with
 | nil => intro i; exact .nil
 | cons hh t ih =>
  intro i
  cases i with
  | zero => exact .cons hb t
  | succ i => exact .cons hh (ih i)
theorem VRels.take {as : List AV} {vs : List Value} (h : VRels as vs) : ∀ (i : Nat), VRels (as.take i) (vs.take i) := by
 induction h with
 | nil => intro i; simp; exact .nil
 | cons hh t ih =>
  intro i
  cases i with
  | zero => exact .nil
  | succ i => exact .cons hh (ih i)
theorem VRels.dropLast {as : List AV} {vs : List Value} (h : VRels as vs) : VRels as.dropLast vs.dropLast := by
 rw [List.dropLast_eq_take, List.dropLast_eq_take, h.length]; exact h.take _
inductive AObj where
 | list (xs : List AV)
 | tup (xs : List AV)
 | inst (C dx : Addr)
 | dict (es : List (Str × AV))
 | cell (v : Option AV)
 | raw (o : Obj)
inductive ERels : List (Str × AV) → List DictEntry → Prop
 | nil : ERels [] []
 | cons {k : Str} {a : AV} {v : Value} {t : Tok} {hs : Int} {es : List (Str × AV)} {ds : List DictEntry} (h : VRel a v) (r : ERels es ds) : ERels ((k, a) :: es) (⟨hs, .str k t, v⟩ :: ds)
noncomputable def tupOf (its : Array Value) (n : Nat) : Obj := { cls := .type "tuple", data := .seq its n }
inductive LsR (xs : List AV) (o : Obj) : Prop
 | mk' (vs : List Value) (n : Nat) (e : o = listOf vs.toArray n) (h : VRels xs vs)
inductive TpR (xs : List AV) (o : Obj) : Prop
 | mk' (vs : List Value) (n : Nat) (e : o = tupOf vs.toArray n) (h : VRels xs vs)
inductive DcR (es : List (Str × AV)) (o : Obj) : Prop
 | mk' (ds : List DictEntry) (n : Nat) (e : o = dictOf ds n) (h : ERels es ds)
inductive ClR (a : AV) (o : Obj) : Prop
 | mk' (v : Value) (e : o.data = .cell (some v)) (h : VRel a v)
noncomputable def ORel : AObj → Obj → Prop
 | .list xs, o => LsR xs o
 | .tup xs, o => TpR xs o
 | .inst C dx, o => o = instObj C dx
 | .dict es, o => DcR es o
 | .cell .none, o => o.data = .cell none
 | .cell (some a), o => ClR a o
 | .raw o', o => o = o' ∧ o.isFreed = false
theorem ORel.live {ao : AObj} {o : Obj} (h : ORel ao o) : o.isFreed = false := by
 cases ao with
 | list xs => obtain ⟨vs, n, rfl, _⟩ := h; rfl
 | tup xs => obtain ⟨vs, n, rfl, _⟩ := h; rfl
 | inst C dx => cases h; rfl
 | dict es => obtain ⟨vs, n, rfl, _⟩ := h; rfl
 | cell v =>
  obtain ⟨c, d, dt, sl⟩ := o
  cases v with
  | none => cases (h : dt = _); rfl
  | some a => obtain ⟨v, hv, _⟩ := h; cases (hv : dt = _); rfl
 | raw o' => exact h.2
noncomputable abbrev AH := Addr → Option AObj
noncomputable abbrev AL := Str → Option AV
noncomputable def hset (H : AH) (a : Addr) (o : AObj) : AH := fun b => if b = a then some o else H b
noncomputable def lset (L : AL) (x : Str) (v : AV) : AL := fun y => if y = x then some v else L y
theorem hset_same (H : AH) (a : Addr) (o : AObj) : hset H a o a = some o := if_pos rfl
theorem hset_ne {H : AH} {a b : Addr} {o : AObj} (h : b ≠ a) : hset H a o b = H b := if_neg h
theorem lset_same (L : AL) (x : Str) (v : AV) : lset L x v x = some v := if_pos rfl
theorem lset_ne {L : AL} {x y : Str} {v : AV} (h : y ≠ x) : lset L x v y = L y := if_neg h
noncomputable def HLe (H H' : AH) : Prop := ∀ a o, H a = some o → H' a = some o
theorem HLe.rfl {H : AH} : HLe H H := fun _ _ h => h
theorem HLe.trans {H H' H'' : AH} (h : HLe H H') (k : HLe H' H'') : HLe H H'' := fun a o e => k a o (h a o e)
theorem HLe.new {H : AH} {a : Addr} {o : AObj} (h : H a = none) : HLe H (hset H a o) := fun b ob e => by
 by_cases q : b = a
 ·subst q; rw [h] at e; cases e
 ·rw [hset_ne q]; exact e
theorem hset_old {H : AH} {a b : Addr} {o ob : AObj} (h : H a = none) (k : H b = some ob) : hset H a o b = some ob := (hset_ne fun q => by rw [q, h] at k; cases k).trans k
theorem HLe.put {H H' : AH} {a : Addr} {o : AObj} (h : H' a = none) (k : HLe H H') : HLe H (hset H' a o) := k.trans (HLe.new h)
theorem HLe.get {H H' : AH} {a : Addr} {o : AObj} (k : HLe H H') (h : H a = some o) : H' a = some o := k _ _ h
structure Dy where
 w : World
 A : Around
 A₀ : Around
 base : Heap
 h₀ : Heap
 outer : List Env
 env : Env
 mg : Str → Option Value
 mb : Str → Option Value
 mean : ExcName → Option Value
 os : OsState
 room : Nat
 comp : Bool
 fenv : Env
 fm : Str → Option Value
noncomputable abbrev Dy.F (d : Dy) : Addr := d.fenv.locals
noncomputable abbrev Dy.L (d : Dy) : Addr := d.env.locals
noncomputable abbrev Dy.M (d : Dy) : Model := model prg d.w
structure Dy.Ok (d : Dy) (ns : List (Str × NameKind)) (cl : List (Str × Addr)) : Prop where
 below : Below d.A₀ d.base d.outer d.h₀
 kin : (Kf d.w.params).In d.h₀
 top : Top qv (looseW qv lv) d.mean d.mg d.mb d.h₀
 frames : d.A.frames = some (d.fenv :: d.outer)
 handled : d.A.handled = none
 frame : d.fenv.frame = some d.fenv.locals
 fkind : d.fenv.scope.kind = .function
 same : d.comp = false → d.fenv = d.env
 hF : d.comp = true → d.h₀.objs.size ≤ d.F
 kind : d.env.scope.kind = .function
 names : d.env.scope.names = ns
 cells : d.env.cells = cl
 globals : d.env.globals = mainGlobals
 blt : d.env.builtins = builtinsNs
 room : d.A.depth + d.room ≤ recursionLimit
 units : d.A.units + 20 * d.room ≤ 9000
structure Cx where
 d : Dy
 ns : List (Str × NameKind)
 cl : List (Str × Addr)
structure FrmOk (d : Dy) (h : Heap) (H : AH) (R : List (Addr × Obj)) : Prop where
 ns : h.Ns d.F d.fm
 nl : d.F ≠ d.L
 nh : H d.F = none
 nr : ∀ p ∈ R, p.1 ≠ d.F
inductive LAt (m : Str → Option Value) (x : Str) (av : AV) : Prop
 | mk' (v : Value) (e : m x = some v) (r : VRel av v)
noncomputable def LRel (L : AL) (m : Str → Option Value) : Prop := ∀ x av, L x = some av → LAt m x av
inductive FrAt (h₀ h : Heap) (l : Addr) (L : AL) : Prop
 | mk' (m : Str → Option Value) (F : Fr h₀ l h m) (hm : LRel L m)
inductive InN (news : List (Addr × Obj)) (a : Addr) (ao : AObj) : Prop
 | mk' (o : Obj) (h : (a, o) ∈ news) (r : ORel ao o)
inductive HpAt (h₀ h : Heap) (l a : Addr) (ao : AObj) : Prop
 | mk' (o : Obj) (g : h.get? a = some o) (h1 : a ≠ l) (h2 : h₀.get? a = none) (r : ORel ao o)
structure Sim (c : Cx) (L : AL) (H : AH) (R : List (Addr × Obj)) (s : Shared) : Prop where
 ok : c.d.Ok c.ns c.cl
 fr : FrAt c.d.h₀ s.heap c.d.L L
 nw : News c.d.h₀ c.d.L s.heap R
 hp : ∀ a ao, H a = some ao → HpAt c.d.h₀ s.heap c.d.L a ao
 fin : ∃ dom : List Addr, ∀ a, H a ≠ none → a ∈ dom
 sep : ∀ p ∈ R, H p.1 = none
 gens : s.gens = #[]
 os : s.os = c.d.os
 frm : c.d.comp = true → FrmOk c.d s.heap H R
namespace Sim
variable {c : Cx} {L : AL} {H : AH} {R : List (Addr × Obj)} {s : Shared}
theorem forget (S : Sim c L H R s) {H' : AH} (h : HLe H' H) : Sim c L H' R s :=
 ⟨S.ok, S.fr, S.nw, fun a ao e => S.hp a ao (h a ao e), let ⟨d, hd⟩ := S.fin; ⟨d, fun a ha => hd a (by
  cases q : H' a with
  | none => exact absurd q ha
  | some x => rw [h a x q]; exact fun z => nomatch z)⟩, (fun p hp => by
  cases q : H' p.1 with
  | none => rfl
  | some x => have := h _ _ q; rw [S.sep p hp] at this; cases this), S.gens, S.os, fun e => let f := S.frm e; ⟨f.ns, f.nl, (by
  cases q : H' c.d.F with
  | none => rfl
  | some x => have := h _ _ q; rw [f.nh] at this; cases this), f.nr⟩⟩
theorem moved (S : Sim c L H R s) {h' : Heap} {tk : Nat} {dr : Drawn} {X : Addr → Prop} (hk : ∀ b o, ¬ X b → s.heap.get? b = some o → h'.get? b = some o)
  (hL : ¬ X c.d.L) (h0 : ∀ b o, c.d.h₀.get? b = some o → ¬ X b) (hR : ∀ p ∈ R, ¬ X p.1) (hH : ∀ a ao, H a = some ao → ¬ X a) (hF : c.d.comp = true → ¬ X c.d.F) : Sim c L H R { s with heap := h', toks := tk, drawn := dr } := by
 obtain ⟨m, F, hm⟩ := S.fr
 obtain ⟨oL, es, ep, hoL, rest⟩ := F.ns
 exact ⟨S.ok, ⟨m, ⟨⟨oL, es, ep, hk _ _ hL hoL, rest⟩, fun b o e => hk b o (h0 b o e) (F.keep b o e), F.above⟩, hm⟩,
  fun p hp => ⟨hk _ _ (hR p hp) (S.nw p hp).1, (S.nw p hp).2⟩, fun a ao e => let ⟨o, h1, h2, h3, h4⟩ := S.hp a ao e; ⟨o, hk _ _ (hH a ao e) h1, h2, h3, h4⟩, S.fin, S.sep, S.gens, S.os, fun e => let f := S.frm e; ⟨f.ns.at fun o q => hk _ _ (hF e) q, f.nl, f.nh, f.nr⟩⟩
theorem ext (S : Sim c L H R s) {h' : Heap} {tk : Nat} {dr : Drawn} (hk : ∀ b o, s.heap.get? b = some o → h'.get? b = some o) : Sim c L H R { s with heap := h', toks := tk, drawn := dr } :=
 S.moved (X := fun _ => False) (fun b o _ e => hk b o e) id (fun _ _ _ => id) (fun _ _ => id) (fun _ _ _ => id) (fun _ => id)
theorem toks (S : Sim c L H R s) {tk : Nat} : Sim c L H R { s with toks := tk } := S.ext (dr := s.drawn) fun _ _ e => e
theorem alloc (S : Sim c L H R s) {h' : Heap} {tk : Nat} {a : Addr} {o : Obj} {ao : AObj} (hn : s.heap.get? a = none) (hk : ∀ b ob, s.heap.get? b = some ob → h'.get? b = some ob)
  (ho : h'.get? a = some o) (hr : ORel ao o) : H a = none ∧ Sim c L (hset H a ao) R { s with heap := h', toks := tk } := by
 have hH : H a = none := by
  cases q : H a with
  | none => rfl
  | some x => obtain ⟨o', h1, _⟩ := S.hp a x q; rw [hn] at h1; cases h1
 have S' : Sim c L H R { s with heap := h', toks := tk } := S.ext (dr := s.drawn) hk
 obtain ⟨m, F, hm⟩ := S.fr
 obtain ⟨oL, es, ep, hoL, rest⟩ := F.ns
 refine ⟨hH, S'.ok, S'.fr, S'.nw, fun b bo e => ?_, ?_, fun p hp => ?_, S'.gens, S'.os, fun e => let f := S'.frm e; ⟨f.ns, f.nl, (hset_ne fun q => by
  obtain ⟨x, _, _, hx, _⟩ := (S.frm e).ns
  rw [q, hn] at hx; cases hx).trans f.nh, f.nr⟩⟩
 ·by_cases q : b = a
  ·subst q
   rw [hset_same] at e
   cases e
   refine ⟨o, ho, fun z => ?_, ?_, hr⟩
   ·rw [← z, hn] at hoL; cases hoL
   ·cases z : c.d.h₀.get? b with
    | none => rfl
    | some x => have := F.keep _ _ z; rw [hn] at this; cases this
  ·rw [hset_ne q] at e
   exact S'.hp b bo e
 ·obtain ⟨dm, hd⟩ := S.fin
  refine ⟨a :: dm, fun b hb => ?_⟩
  by_cases q : b = a
  ·rw [q]; exact .head _
  ·rw [hset_ne q] at hb; exact .tail _ (hd b hb)
 ·have : p.1 ≠ a := fun q => by have := (S.nw p hp).1; rw [q, hn] at this; cases this
  rw [hset_ne this]; exact S.sep p hp
theorem push (S : Sim c L H R s) {o : Obj} {ao : AObj} (hr : ORel ao o) : H s.heap.objs.size = none ∧ Sim c L (hset H s.heap.objs.size ao) R { s with heap := s.heap.push o } :=
 S.alloc (tk := s.toks) (by
  cases q : s.heap.get? s.heap.objs.size with
  | none => rfl
  | some x => exact absurd (Heap.lt_size q) (Nat.lt_irrefl _)) (fun _ _ e => Heap.get?_push_of_some _ e) (Heap.get?_push_size _ hr.live) hr
theorem put (S : Sim c L H R s) {h' : Heap} {tk : Nat} {a : Addr} {o : Obj} {ao ao' : AObj} (ha : H a = some ao) (hk : ∀ b ob, b ≠ a → s.heap.get? b = some ob → h'.get? b = some ob)
  (ho : h'.get? a = some o) (hr : ORel ao' o) : Sim c L (hset H a ao') R { s with heap := h', toks := tk } := by
 obtain ⟨o₀, g1, g2, g3, g4⟩ := S.hp a ao ha
 obtain ⟨m, F, hm⟩ := S.fr
 obtain ⟨oL, es, ep, hoL, rest⟩ := F.ns
 refine ⟨S.ok, ⟨m, ⟨⟨oL, es, ep, hk _ _ (Ne.symm g2) hoL, rest⟩, fun b ob e => hk b ob (fun q => by rw [q, g3] at e; cases e) (F.keep b ob e), F.above⟩, hm⟩,
  fun p hp => ⟨hk _ _ (fun q => by have := S.sep p hp; rw [q, ha] at this; cases this) (S.nw p hp).1, (S.nw p hp).2⟩, fun b bo e => ?_, ?_, fun p hp => ?_, S.gens, S.os, fun e => let f := S.frm e; have hne : c.d.F ≠ a := fun q => by { have := f.nh; rw [q, ha] at this; cases this }; ⟨f.ns.at fun o q => hk _ _ hne q, f.nl, (hset_ne hne).trans f.nh, f.nr⟩⟩
 ·by_cases q : b = a
  ·subst q
   rw [hset_same] at e
   cases e
   exact ⟨o, ho, g2, g3, hr⟩
  ·rw [hset_ne q] at e
   obtain ⟨o', h1, h2, h3, h4⟩ := S.hp b bo e
   exact ⟨o', hk _ _ q h1, h2, h3, h4⟩
 ·obtain ⟨dm, hd⟩ := S.fin
  refine ⟨dm, fun b hb => ?_⟩
  by_cases q : b = a
  ·rw [q]; exact hd a (by rw [ha]; exact fun z => nomatch z)
  ·rw [hset_ne q] at hb; exact hd b hb
 ·have : p.1 ≠ a := fun q => by have := S.sep p hp; rw [q, ha] at this; cases this
  rw [hset_ne this]; exact S.sep p hp
theorem bound (S : Sim c L H R s) {x : Str} {v : Value} {av : AV} {h' : Heap} {tk : Nat} {m : Str → Option Value} (hm : LRel L m) (hv : VRel av v) (F : Fr c.d.h₀ c.d.L h' fun y => if y = x then some v else m y)
  (hs : Heap.SameBut c.d.L s.heap h') : Sim c (lset L x av) H R { s with heap := h', toks := tk } := by
 refine ⟨S.ok, ⟨_, F, fun y a e => ?_⟩, S.nw.set hs, fun a ao e => ?_, S.fin, S.sep, S.gens, S.os, fun e => let f := S.frm e; ⟨f.ns.sameBut hs f.nl, f.nl, f.nh, f.nr⟩⟩
 ·by_cases q : y = x
  ·subst q; rw [lset_same] at e; cases e; exact ⟨v, if_pos rfl, hv⟩
  ·rw [lset_ne q] at e; obtain ⟨w, h1, h2⟩ := hm y a e; exact ⟨w, (if_neg q).trans h1, h2⟩
 ·obtain ⟨o, h1, h2, h3, h4⟩ := S.hp a ao e
  exact ⟨o, (hs.2 a h2).trans h1, h2, h3, h4⟩
theorem toR (S : Sim c L H R s) {a : Addr} {ao : AObj} (ha : H a = some ao) : ∃ o, ORel ao o ∧ s.heap.get? a = some o ∧ (∀ p ∈ R, p.1 ≠ a) ∧ Sim c L (fun b => if b = a then none else H b) ((a, o) :: R) s := by
 obtain ⟨o, g1, g2, g3, g4⟩ := S.hp a ao ha
 refine ⟨o, g4, g1, (fun p hp q => by have := S.sep p hp; rw [q, ha] at this; cases this), S.ok, S.fr, fun p hp => ?_, fun b bo e => ?_, ?_, fun p hp => ?_, S.gens, S.os, fun e => let f := S.frm e; have hne : a ≠ c.d.F := fun q => by { have := f.nh; rw [← q, ha] at this; cases this }; ⟨f.ns, f.nl, (if_neg (Ne.symm hne)).trans f.nh, fun p hp => by
  rcases List.mem_cons.mp hp with rfl | hp
  ·exact hne
  ·exact f.nr p hp⟩⟩
 ·rcases List.mem_cons.mp hp with rfl | hp
  ·exact ⟨g1, g2, g3⟩
  ·exact S.nw p hp
 ·by_cases q : b = a
  ·rw [if_pos q] at e; cases e
  ·rw [if_neg q] at e; exact S.hp b bo e
 ·obtain ⟨dm, hd⟩ := S.fin
  refine ⟨dm, fun b hb => hd b fun z => hb ?_⟩
  by_cases q : b = a
  ·exact if_pos q
  ·exact (if_neg q).trans z
 ·rcases List.mem_cons.mp hp with rfl | hp
  ·exact if_pos rfl
  ·by_cases q : p.1 = a
   ·exact if_pos q
   ·exact (if_neg q).trans (S.sep p hp)
theorem ofR (S : Sim c L H R s) {a : Addr} {o : Obj} {ao : AObj} (hm : (a, o) ∈ R) (hr : ORel ao o) {R' : List (Addr × Obj)} (hR : ∀ p ∈ R', p ∈ R ∧ p.1 ≠ a) : Sim c L (hset H a ao) R' s := by
 have N := S.nw _ hm
 refine ⟨S.ok, S.fr, fun p hp => S.nw p (hR p hp).1, fun b bo e => ?_, ?_, fun p hp => (hset_ne (hR p hp).2).trans (S.sep p (hR p hp).1), S.gens, S.os, fun e => let f := S.frm e; ⟨f.ns, f.nl, (hset_ne (Ne.symm (f.nr _ hm))).trans f.nh, fun p hp => f.nr p (hR p hp).1⟩⟩
 ·by_cases q : b = a
  ·subst q; rw [hset_same] at e; cases e; exact ⟨o, N.1, N.2.1, N.2.2, hr⟩
  ·rw [hset_ne q] at e; exact S.hp b bo e
 ·obtain ⟨dm, hd⟩ := S.fin
  refine ⟨a :: dm, fun b hb => ?_⟩
  by_cases q : b = a
  ·rw [q]; exact .head _
  ·rw [hset_ne q] at hb; exact .tail _ (hd b hb)
theorem dropR (S : Sim c L H R s) {R' : List (Addr × Obj)} (h : ∀ p ∈ R', p ∈ R) : Sim c L H R' s :=
 ⟨S.ok, S.fr, fun p hp => S.nw p (h p hp), S.hp, S.fin, fun p hp => S.sep p (h p hp), S.gens, S.os, fun e => let f := S.frm e; ⟨f.ns, f.nl, f.nh, fun p hp => f.nr p (h p hp)⟩⟩
inductive NewsOf (h₀ h : Heap) (l : Addr) (H : AH) (R : List (Addr × Obj)) : Prop
 | mk' (news : List (Addr × Obj)) (N : News h₀ l h (news ++ R)) (hin : ∀ a ao, H a = some ao → InN news a ao) (hout : ∀ p ∈ news, ∃ ao, H p.1 = some ao ∧ ORel ao p.2)
theorem news (S : Sim c L H R s) : NewsOf c.d.h₀ s.heap c.d.L H R := by
 obtain ⟨dm, hd⟩ := S.fin
 let f : Addr → Option (Addr × Obj) := fun a => match H a with
  | some _ => (s.heap.get? a).map fun o => (a, o)
  | none => none
 have hf : ∀ a p, f a = some p → p.1 = a ∧ ∃ ao, H a = some ao ∧ s.heap.get? a = some p.2 := by
  intro a p e
  unfold f at e
  cases q : H a with
  | none => rw [q] at e; cases e
  | some ao =>
   rw [q] at e
   obtain ⟨o, h1, rfl⟩ := Option.map_eq_some_iff.mp e
   exact ⟨rfl, ao, rfl, h1⟩
 refine ⟨dm.filterMap f, fun p hp => ?_, fun a ao e => ?_, fun p hp => ?_⟩
 ·rcases List.mem_append.mp hp with hp | hp
  ·obtain ⟨a, _, e⟩ := List.mem_filterMap.mp hp
   obtain ⟨rfl, ao, h1, h2⟩ := hf a p e
   obtain ⟨o, g1, g2, g3, _⟩ := S.hp _ _ h1
   rw [h2] at g1
   cases g1
   exact ⟨h2, g2, g3⟩
  ·exact S.nw p hp
 ·obtain ⟨o, g1, g2, g3, g4⟩ := S.hp a ao e
  refine ⟨o, List.mem_filterMap.mpr ⟨a, hd a (by rw [e]; exact fun z => nomatch z), ?_⟩, g4⟩
  unfold f
  rw [e, g1]
  rfl
 ·obtain ⟨a, _, e⟩ := List.mem_filterMap.mp hp
  obtain ⟨rfl, ao, h1, h2⟩ := hf a p e
  obtain ⟨o, g1, g2, g3, g4⟩ := S.hp _ _ h1
  rw [h2] at g1
  cases g1
  exact ⟨ao, h1, g4⟩
theorem kin (S : Sim c L H R s) : (Kf c.d.w.params).In s.heap := let ⟨_, F, _⟩ := S.fr; S.ok.kin.keeps F.keep
end Sim
end
section
noncomputable abbrev nE : Value → Shared → Prop := fun _ _ => False
inductive TQ (c : Cx) (L : AL) (R : List (Addr × Obj)) (Q : AV → AH → Prop) (v : Value) (s' : Shared) : Prop
 | mk' (av : AV) (H' : AH) (r : VRel av v) (S : Sim c L H' R s') (q : Q av H')
inductive BQ (c : Cx) (L : AL) (R : List (Addr × Obj)) (Q : Bool → AH → Prop) (b : Bool) (s' : Shared) : Prop
 | mk' (H' : AH) (S : Sim c L H' R s') (q : Q b H')
inductive UQ (c : Cx) (R : List (Addr × Obj)) (Q : AL → AH → Prop) (u : Unit) (s' : Shared) : Prop
 | mk' (L' : AL) (H' : AH) (S : Sim c L' H' R s') (q : Q L' H')
noncomputable def TW (c : Cx) (t : Sem Value) (L : AL) (H : AH) (Q : AV → AH → Prop) : Prop :=
 ∀ R s, Sim c L H R s → wpAny (model prg c.d.w) c.d.A t (TQ c L R Q) nE s
noncomputable def BW (c : Cx) (t : Sem Bool) (L : AL) (H : AH) (Q : Bool → AH → Prop) : Prop :=
 ∀ R s, Sim c L H R s → wpAny (model prg c.d.w) c.d.A t (BQ c L R Q) nE s
noncomputable def UW (c : Cx) (t : Sem Unit) (L : AL) (H : AH) (Q : AL → AH → Prop) : Prop :=
 ∀ R s, Sim c L H R s → wpAny (model prg c.d.w) c.d.A t (UQ c R Q) nE s
inductive AF where
 | next | brk | cont
 | ret (v : AV)
inductive RtR (a : AV) (f : Flow) : Prop
 | mk' (v : Value) (e : f = .ret v) (r : VRel a v)
noncomputable def FRel : AF → Flow → Prop
 | .next, f => f = .next
 | .brk, f => f = .brk
 | .cont, f => f = .cont
 | .ret a, f => RtR a f
inductive XQ (c : Cx) (R : List (Addr × Obj)) (Q : AF → AL → AH → Prop) (f : Flow) (s' : Shared) : Prop
 | mk' (af : AF) (L' : AL) (H' : AH) (r : FRel af f) (S : Sim c L' H' R s') (q : Q af L' H')
inductive LQ (c : Cx) (L : AL) (R : List (Addr × Obj)) (Q : List AV → AH → Prop) (vs : List Value) (s' : Shared) : Prop
 | mk' (as : List AV) (H' : AH) (r : VRels as vs) (S : Sim c L H' R s') (q : Q as H')
noncomputable def XW (c : Cx) (t : Sem Flow) (L : AL) (H : AH) (Q : AF → AL → AH → Prop) : Prop :=
 ∀ R s, Sim c L H R s → wpAny (model prg c.d.w) c.d.A t (XQ c R Q) nE s
noncomputable def LW (c : Cx) (t : Sem (List Value)) (L : AL) (H : AH) (Q : List AV → AH → Prop) : Prop :=
 ∀ R s, Sim c L H R s → wpAny (model prg c.d.w) c.d.A t (LQ c L R Q) nE s
noncomputable abbrev EW (c : Cx) (e : Expr) (L : AL) (H : AH) (Q : AV → AH → Prop) : Prop := TW c (eval e c.d.env) L H Q
noncomputable abbrev CB (c : Cx) (e : Expr) (L : AL) (H : AH) (Q : Bool → AH → Prop) : Prop := BW c (PySem.isTrue e c.d.env (eval e c.d.env)) L H Q
noncomputable abbrev ST (c : Cx) (st : Stmt) (L : AL) (H : AH) (Q : AF → AL → AH → Prop) : Prop := XW c (exec st c.d.env) L H Q
noncomputable abbrev SS (c : Cx) (sts : List Stmt) (L : AL) (H : AH) (Q : AF → AL → AH → Prop) : Prop := XW c (execs sts c.d.env) L H Q
noncomputable abbrev ES (c : Cx) (es : List Expr) (pos : Pos) (L : AL) (H : AH) (Q : List AV → AH → Prop) : Prop := LW c (spliced (backTo pos (starEach es c.d.env))) L H Q
noncomputable def OpW (c : Cx) (op : Operator) (a b : AV) (L : AL) (H : AH) (Q : AV → AH → Prop) : Prop := ∀ va vb, VRel a va → VRel b vb → TW c (binaryOp op va vb) L H Q
noncomputable def IpW (c : Cx) (op : Operator) (a b : AV) (L : AL) (H : AH) (Q : AV → AH → Prop) : Prop := ∀ va vb, VRel a va → VRel b vb → TW c (inplaceOp op va vb) L H Q
noncomputable def CmpW (c : Cx) (op : CmpOp) (a b : AV) (L : AL) (H : AH) (Q : Bool → AH → Prop) : Prop := ∀ va vb, VRel a va → VRel b vb → TW c (compareOp op va vb) L H fun r H' => ∃ b, r = .bool b ∧ Q b H'
noncomputable def TrW (c : Cx) (a : AV) (L : AL) (H : AH) (Q : Bool → AH → Prop) : Prop := ∀ v, VRel a v → BW c (truthy v) L H Q
noncomputable def CallW (c : Cx) (f : Value) (as : List AV) (L : AL) (H : AH) (Q : AV → AH → Prop) : Prop := ∀ vs, VRels as vs → TW c (call f vs) L H Q
noncomputable def GetW (c : Cx) (a : AV) (name : Str) (L : AL) (H : AH) (Q : AV → AH → Prop) : Prop := ∀ v, VRel a v → TW c (getAttr v name true) L H Q
noncomputable def SetW (c : Cx) (a : AV) (name : Str) (x : AV) (L : AL) (H : AH) (Q : AH → Prop) : Prop := ∀ v vx, VRel a v → VRel x vx → UW c (setAttr v name vx) L H fun L' H' => L' = L ∧ Q H'
noncomputable def ItW (c : Cx) (a i : AV) (L : AL) (H : AH) (Q : AV → AH → Prop) : Prop := ∀ v vi, VRel a v → VRel i vi → TW c (getItem v vi) L H Q
noncomputable def SiW (c : Cx) (a i x : AV) (L : AL) (H : AH) (Q : AH → Prop) : Prop := ∀ v vi vx, VRel a v → VRel i vi → VRel x vx → UW c (setItem v vi vx) L H fun L' H' => L' = L ∧ Q H'
section
variable {c : Cx} {L : AL} {H : AH} {R : List (Addr × Obj)} {s : Shared}
theorem TW.run {E : Value → Shared → Prop} {t : Sem Value} {Q : AV → AH → Prop} (h : TW c t L H Q) (S : Sim c L H R s) {P : Value → Shared → Prop} (k : ∀ v av H' s', VRel av v → Sim c L H' R s' → Q av H' → P v s') :
  wpAny (model prg c.d.w) c.d.A t P E s := wpAny_mono (h R s S) (fun v s' z => by obtain ⟨av, H', hv, S', q⟩ := z; exact k v av H' s' hv S' q) fun _ _ x => x.elim
theorem BW.run {E : Value → Shared → Prop} {t : Sem Bool} {Q : Bool → AH → Prop} (h : BW c t L H Q) (S : Sim c L H R s) {P : Bool → Shared → Prop} (k : ∀ b H' s', Sim c L H' R s' → Q b H' → P b s') :
  wpAny (model prg c.d.w) c.d.A t P E s := wpAny_mono (h R s S) (fun v s' z => by obtain ⟨H', S', q⟩ := z; exact k v H' s' S' q) fun _ _ x => x.elim
theorem UW.run {E : Value → Shared → Prop} {t : Sem Unit} {Q : AL → AH → Prop} (h : UW c t L H Q) (S : Sim c L H R s) {P : Unit → Shared → Prop} (k : ∀ L' H' s', Sim c L' H' R s' → Q L' H' → P () s') :
  wpAny (model prg c.d.w) c.d.A t P E s := wpAny_mono (h R s S) (fun _ s' z => by obtain ⟨L', H', S', q⟩ := z; exact k L' H' s' S' q) fun _ _ x => x.elim
theorem XW.run {E : Value → Shared → Prop} {t : Sem Flow} {Q : AF → AL → AH → Prop} (h : XW c t L H Q) (S : Sim c L H R s) {P : Flow → Shared → Prop} (k : ∀ f af L' H' s', FRel af f → Sim c L' H' R s' → Q af L' H' → P f s') :
  wpAny (model prg c.d.w) c.d.A t P E s := wpAny_mono (h R s S) (fun v s' z => by obtain ⟨af, L', H', hf, S', q⟩ := z; exact k v af L' H' s' hf S' q) fun _ _ x => x.elim
theorem LW.run {E : Value → Shared → Prop} {t : Sem (List Value)} {Q : List AV → AH → Prop} (h : LW c t L H Q) (S : Sim c L H R s) {P : List Value → Shared → Prop} (k : ∀ vs as H' s', VRels as vs → Sim c L H' R s' → Q as H' → P vs s') :
  wpAny (model prg c.d.w) c.d.A t P E s := wpAny_mono (h R s S) (fun v s' z => by obtain ⟨av, H', hv, S', q⟩ := z; exact k v av H' s' hv S' q) fun _ _ x => x.elim
theorem TW.mono {t : Sem Value} {Q Q' : AV → AH → Prop} (h : TW c t L H Q) (k : ∀ av H', Q av H' → Q' av H') : TW c t L H Q' :=
 fun _ _ S => h.run S fun _ av H' _ hv S' q => ⟨av, H', hv, S', k _ _ q⟩
theorem XW.mono {t : Sem Flow} {Q Q' : AF → AL → AH → Prop} (h : XW c t L H Q) (k : ∀ av L' H', Q av L' H' → Q' av L' H') : XW c t L H Q' :=
 fun _ _ S => h.run S fun _ av L' H' _ hv S' q => ⟨av, L', H', hv, S', k _ _ _ q⟩
theorem BW.mono {t : Sem Bool} {Q Q' : Bool → AH → Prop} (h : BW c t L H Q) (k : ∀ av H', Q av H' → Q' av H') : BW c t L H Q' :=
 fun _ _ S => h.run S fun _ H' _ S' q => ⟨H', S', k _ _ q⟩
theorem TW.less {t : Sem Value} {H' : AH} {Q : AV → AH → Prop} (h : TW c t L H' Q) (k : HLe H' H) : TW c t L H Q := fun R s S => h R s (S.forget k)
-- constants and names
theorem EW.cInt {i : Int} {k : Nat} {pos : Pos} {Q : AV → AH → Prop} (h : Q (.int i) H) : EW c (.Constant (.int i) k pos) L H Q :=
 fun _ _ S => wpAny_Constant_int ⟨.int i, H, ⟨_, rfl⟩, S.toks, h⟩
theorem EW.cStr {x : Str} {k : Nat} {pos : Pos} {Q : AV → AH → Prop} (h : Q (.str x) H) : EW c (.Constant (.str x) k pos) L H Q :=
 fun _ _ S => Calls.Constant_str ⟨.str x, H, ⟨_, rfl⟩, S.toks, h⟩
theorem EW.cNone {k : Nat} {pos : Pos} {Q : AV → AH → Prop} (h : Q .none H) : EW c (.Constant .none k pos) L H Q :=
 fun _ _ S => wpAny_Constant_none ⟨.none, H, rfl, S, h⟩
theorem EW.cBool {b : Bool} {k : Nat} {pos : Pos} {Q : AV → AH → Prop} (h : Q (.bool b) H) : EW c (.Constant (.bool b) k pos) L H Q :=
 fun _ _ S => wpAny_Constant_bool ⟨.bool b, H, rfl, S, h⟩
theorem EW.name {x : Str} {pos : Pos} {av : AV} {Q : AV → AH → Prop} (hk : c.ns.lookup x = some .local) (hv : L x = some av) (h : Q av H) (hd : (x == ("__debug__" : Str)) = false := by decide) :
  EW c (.Name x pos) L H Q := fun _ _ S => by
 obtain ⟨m, F, hm⟩ := S.fr
 obtain ⟨v, h1, h2⟩ := hm x av hv
 exact wpAny_Name (wpAny_loadName_local S.ok.kind (by unfold Env.kindOf; rw [S.ok.names]; exact hk) F.ns h1 ⟨av, H, h2, S, h⟩) hd
theorem isCell_of {o : Obj} {a : AV} {h : Heap} {ca : Addr} (g : h.get? ca = some o) (r : ORel (.cell (some a)) o) : ∃ v, h.IsCell ca (some v) ∧ VRel a v := by
 obtain ⟨v, e, hv⟩ := r
 exact ⟨v, ⟨o, g, e⟩, hv⟩
theorem EW.cell {x : Str} {pos : Pos} {ca : Addr} {av : AV} {Q : AV → AH → Prop} (hk : c.ns.lookup x = some .cell) (hc : c.cl.lookup x = some ca) (hv : H ca = some (.cell (some av))) (h : Q av H)
  (hd : (x == ("__debug__" : Str)) = false := by decide) : EW c (.Name x pos) L H Q := fun _ _ S => by
 obtain ⟨o, g, _, _, r⟩ := S.hp _ _ hv
 obtain ⟨v, h1, h2⟩ := isCell_of g r
 exact wpAny_Name (wpAny_loadName_cell S.ok.kind (by unfold Env.kindOf; rw [S.ok.names]; exact hk) (by rw [S.ok.cells]; exact hc) h1 ⟨av, H, h2, S, h⟩) hd
noncomputable def GIs (P : Params) (x : Str) (v : Value) : Prop := nsIn (Kf P) mainGlobals x = some (some v) ∨ (nsIn (Kf P) mainGlobals x = some none ∧ bootBuiltins x = some v ∧ x ≠ "__name__")
theorem EW.glob {x : Str} {pos : Pos} {av : AV} {v : Value} {Q : AV → AH → Prop} (hk : c.ns.lookup x = some .globalImplicit) (hg : GIs c.d.w.params x v) (hv : VRel av v) (h : Q av H)
  (hd : (x == ("__debug__" : Str)) = false := by decide) : EW c (.Name x pos) L H Q := fun _ _ S => by
 obtain ⟨m, F, hm⟩ := S.fr
 have T := topRead_of S.ok.top
 have hg' : _ := T.g.keeps F.keep
 have hb' : _ := T.b.keeps F.keep
 have fin : TQ c L _ Q v _ := ⟨av, H, hv, S, h⟩
 refine Name_function_global S.ok.kind (by unfold Env.kindOf; rw [S.ok.names]; exact hk) ?_ hd
 rcases hg with e | ⟨e, b, n⟩
 ·exact loadGlobal_global (by rw [S.ok.globals]; exact hg') (mg_of S.ok.kin T.g e) fin
 ·exact loadGlobal_builtin (by rw [S.ok.globals]; exact hg') (mg_none_of S.ok.kin T.g e) (by rw [S.ok.blt]; exact hb') ((T.builtins x n).trans b) fin
-- expressions
theorem EW.binop {l r : Expr} {op : Operator} {pos : Pos} {Q : AV → AH → Prop} (h : EW c l L H fun a H1 => EW c r L H1 fun b H2 => OpW c op a b L H2 Q) : EW c (.BinOp l op r pos) L H Q := fun _ _ S =>
 wpAny_BinOp (h.run S fun _ _ _ _ hv S' q => q.run S' fun _ _ _ _ hv' S'' q' => q' _ _ hv hv' _ _ S'')
theorem CB.cmp {l r : Expr} {op : CmpOp} {pos : Pos} {Q : Bool → AH → Prop} (h : EW c l L H fun a H1 => EW c r L H1 fun b H2 => CmpW c op a b L H2 Q) (hm : behindInMarks op r = false := by with_unfolding_all rfl) : CB c (.Compare l [op] [r] pos) L H Q := fun _ _ S =>
 wpAny_isTrue_Compare1 (h.run S fun _ _ _ _ hv S' q => q.run S' fun _ _ _ _ hv' S'' q' => (q' _ _ hv hv').run S'' fun v av H' s' hv'' S3 zz => by
  obtain ⟨b, e, q''⟩ := zz
  subst e; cases hv''; exact wpAny_truthy_bool ⟨H', S3, q''⟩) hm
theorem EW.cmp {l r : Expr} {op : CmpOp} {pos : Pos} {Q : AV → AH → Prop} (h : EW c l L H fun a H1 => EW c r L H1 fun b H2 => CmpW c op a b L H2 fun b => Q (.bool b)) (hm : behindInMarks op r = false := by with_unfolding_all rfl) : EW c (.Compare l [op] [r] pos) L H Q := fun _ _ S =>
 wpAny_Compare1 (h.run S fun _ _ _ _ hv S' q => q.run S' fun _ _ _ _ hv' S'' q' => (q' _ _ hv hv').run S'' fun v av H' s' hv'' S3 zz => by
  obtain ⟨b, e, q''⟩ := zz
  subst e; exact ⟨_, H', hv'', S3, q''⟩) hm
theorem CB.not {x : Expr} {pos : Pos} {Q : Bool → AH → Prop} (h : CB c x L H fun b => Q (!b)) : CB c (.UnaryOp .Not x pos) L H Q := fun _ _ S => wpAny_isTrue_Not (h.run S fun _ H' _ S' q => ⟨H', S', q⟩)
theorem CB.val {e : Expr} {Q : Bool → AH → Prop} (h : EW c e L H fun a H1 => TrW c a L H1 Q)
  (he : PySem.isTrue e c.d.env (eval e c.d.env) = (do let v ← eval e c.d.env; standAt e.pos; holding [v] (truthy v)) := by with_unfolding_all rfl) : CB c e L H Q := fun _ _ S =>
 wpAny_isTrue_value (h.run S fun _ _ _ _ hv S' q => q _ hv _ _ S') he
theorem CB.and2 {x y : Expr} {pos : Pos} {Q : Bool → AH → Prop} (h : CB c x L H fun b H1 => if b = true then CB c y L H1 Q else Q false H1) : CB c (.BoolOp .And [x, y] pos) L H Q := fun R s S =>
 wpAny_isTrue_BoolOp (wpAny_allTrue_And_cons (h.run S fun b H' s' S' q => by
  cases b with
  | false => rw [if_neg (by decide)] at q ⊢; exact ⟨H', S', q⟩
  | true =>
   rw [if_pos rfl] at q ⊢
   refine wpAny_allTrue_And_cons (q.run S' fun b H'' s'' S'' q' => ?_)
   cases b with
   | false => rw [if_neg (by decide)]; exact ⟨H'', S'', q'⟩
   | true => rw [if_pos rfl]; exact wpAny_allTrue_And_nil ⟨H'', S'', q'⟩))
theorem CB.or2 {x y : Expr} {pos : Pos} {Q : Bool → AH → Prop} (h : CB c x L H fun b H1 => if b = true then Q true H1 else CB c y L H1 Q) : CB c (.BoolOp .Or [x, y] pos) L H Q := fun R s S =>
 wpAny_isTrue_BoolOp (wpAny_allTrue_Or_cons (h.run S fun b H' s' S' q => by
  cases b with
  | true => rw [if_pos rfl] at q ⊢; exact ⟨H', S', q⟩
  | false =>
   rw [if_neg (by decide)] at q ⊢
   refine wpAny_allTrue_Or_cons (q.run S' fun b H'' s'' S'' q' => ?_)
   cases b with
   | true => rw [if_pos rfl]; exact ⟨H'', S'', q'⟩
   | false => rw [if_neg (by decide)]; exact wpAny_allTrue_Or_nil ⟨H'', S'', q'⟩))
theorem EW.ite {test body orelse : Expr} {pos : Pos} {Q : AV → AH → Prop} (h : CB c test L H fun b H1 => if b = true then EW c body L H1 Q else EW c orelse L H1 Q) : EW c (.IfExp test body orelse pos) L H Q := fun _ _ S =>
 wpAny_IfExp (h.run S fun b H' s' S' q => by
  cases b with
  | true => rw [if_pos rfl] at q ⊢; exact q _ _ S'
  | false => rw [if_neg (by decide)] at q ⊢; exact q _ _ S')
theorem ES.nil {pos : Pos} {Q : List AV → AH → Prop} (h : Q [] H) : ES c [] pos L H Q := fun _ _ S => spliced_none ⟨[], H, .nil, S, h⟩
theorem ES.cons {e : Expr} {es : List Expr} {pos : Pos} {Q : List AV → AH → Prop} (h : EW c e L H fun a H1 => ES c es pos L H1 fun as => Q (a :: as))
  (he : starEach (e :: es) c.d.env = (false, eval e c.d.env) :: starEach es c.d.env := by with_unfolding_all rfl) : ES c (e :: es) pos L H Q := fun _ _ S =>
 spliced_more (h.run S fun _ _ _ _ hv S' q => q.run S' fun _ _ H' _ hv' S'' q' => ⟨_, H', .cons hv hv', S'', q'⟩) he
structure ListK (Q : AV → AH → Prop) (as : List AV) (H1 : AH) : Prop where
 len : as.length ≤ 1000
 k : ∀ a, H1 a = none → Q (.ref a) (hset H1 a (.list as))
structure TplK (Q : AV → AH → Prop) (as : List AV) (H1 : AH) : Prop where
 len : as.length ≤ 1000
 k : ∀ a, H1 a = none → Q (.ref a) (hset H1 a (.tup as))
theorem EW.list {es : List Expr} {pos : Pos} {Q : AV → AH → Prop} (h : ES c es pos L H (ListK Q)) : EW c (.List es pos) L H Q := fun _ _ S =>
 List_ (h.run S fun vs as H' s' hv S' q => wpAny_newList (by
  obtain ⟨n, S''⟩ := S'.push (ao := .list as) (o := listOf vs.toArray 0) ⟨vs, 0, rfl, hv⟩
  exact ⟨.ref _, _, rfl, S'', q.2 _ n⟩) (by have := q.1; rw [hv.length] at this; exact Nat.le_trans this (by decide)))
theorem EW.tup {es : List Expr} {k : Nat} {pos : Pos} {Q : AV → AH → Prop} (h : ES c es pos L H (TplK Q)) : EW c (.Tuple es k pos) L H Q := fun _ _ S =>
 Tuple_ (h.run S fun vs as H' s' hv S' q => wpAny_newTuple (by
  obtain ⟨n, S''⟩ := S'.push (ao := .tup as) (o := tupOf vs.toArray 0) ⟨vs, 0, rfl, hv⟩
  exact ⟨.ref _, _, rfl, S'', q.2 _ n⟩) (by have := q.1; rw [hv.length] at this; exact Nat.le_trans this (by decide)))
theorem EW.attr {e : Expr} {x : Str} {pos : Pos} {Q : AV → AH → Prop} (h : EW c e L H fun a H1 => GetW c a x L H1 Q)
  (he : eval (.Attribute e x pos) c.d.env = (do let o ← eval e c.d.env; standAt pos.atName; let r ← holding [o] (getAttr o x true); letTemporaryGo e o r; pure r) := by with_unfolding_all rfl) : EW c (.Attribute e x pos) L H Q := fun _ _ S =>
 Attribute_any_ (h.run S fun _ _ _ _ hv S' q => q _ hv _ _ S') he
-- statements
theorem SS.nil {Q : AF → AL → AH → Prop} (h : Q .next L H) : SS c [] L H Q := fun _ _ S => wpAny_execs_nil ⟨.next, L, H, rfl, S, h⟩
theorem SS.cons {st : Stmt} {sts : List Stmt} {Q : AF → AL → AH → Prop} (h : ST c st L H fun f L1 H1 => match f with | .next => SS c sts L1 H1 Q | f => Q f L1 H1) : SS c (st :: sts) L H Q := fun R s S =>
 wpAny_execs_cons (h.run S fun f af L' H' s' hf S' q => by
  cases af with
  | next => cases hf; exact q _ _ S'
  | brk => cases hf; exact ⟨.brk, L', H', rfl, S', q⟩
  | cont => cases hf; exact ⟨.cont, L', H', rfl, S', q⟩
  | ret a => obtain ⟨v, rfl, hv⟩ := hf; exact ⟨.ret a, L', H', ⟨v, rfl, hv⟩, S', q⟩)
structure Hid (c : Cx) (sts : List Stmt) (Q P : AF → AL → AH → Prop) : Prop where
 next : ∀ {L H}, SS c sts L H Q → P .next L H
 brk : ∀ {L H}, Q .brk L H → P .brk L H
 cont : ∀ {L H}, Q .cont L H → P .cont L H
 ret : ∀ {a L H}, Q (.ret a) L H → P (.ret a) L H
structure Shut (Q P : AF → AL → AH → Prop) : Prop where
 out : ∀ {f L H}, Q f L H → P f L H
structure ShutV (Q P : AV → AH → Prop) : Prop where
 out : ∀ {a H}, Q a H → P a H
theorem ST.brk {pos : Pos} {Q : AF → AL → AH → Prop} (h : Q .brk L H) : ST c (.Break pos) L H Q := fun _ _ S => wpAny_Break ⟨.brk, L, H, rfl, S, h⟩
theorem ST.cont {pos : Pos} {Q : AF → AL → AH → Prop} (h : Q .cont L H) : ST c (.Continue pos) L H Q := fun _ _ S => wpAny_Continue ⟨.cont, L, H, rfl, S, h⟩
theorem ST.ret {e : Expr} {pos : Pos} {Q : AF → AL → AH → Prop} (h : EW c e L H fun a H1 => Q (.ret a) L H1) : ST c (.Return (some e) pos) L H Q := fun _ _ S =>
 wpAny_Return_some (h.run S fun v av H' _ hv S' q => ⟨.ret av, L, H', ⟨v, rfl, hv⟩, S', q⟩)
theorem not_interactive {env : Env} (h : env.scope.kind = .function) : interactive env = false := by unfold interactive; rw [h]; rfl
theorem ST.expr {e : Expr} {pos : Pos} {Q : AF → AL → AH → Prop} (h : EW c e L H fun _ H1 => Q .next L H1) (hs : swapsWith e none pos.line c.d.env = pure false := by with_unfolding_all rfl) : ST c (.Expr e pos) L H Q := fun _ _ S =>
 wpAny_Expr_any (h.run S fun v av H' _ hv S' q => ⟨.next, L, H', rfl, S', q⟩) (not_interactive S.ok.kind) hs
theorem ST.iff {test : Expr} {body orelse : List Stmt} {pos : Pos} {Q : AF → AL → AH → Prop} (h : CB c test L H fun b H1 => if b = true then SS c body L H1 Q else SS c orelse L H1 Q) : ST c (.If test body orelse pos) L H Q := fun _ _ S =>
 wpAny_If (h.run S fun b H' s' S' q => by
  cases b with
  | true => rw [if_pos rfl] at q ⊢; exact q _ _ S'
  | false => rw [if_neg (by decide)] at q ⊢; exact q _ _ S')
theorem notClsMod {env : Env} (h : env.scope.kind = .function) : (env.scope.kind == .class || (env.scope.kind == .module && env.locals != env.globals)) = false := by rw [h]; rfl
theorem UW.store {x : Str} {v : Value} {av : AV} {Q : AL → AH → Prop} (hk : c.ns.lookup x = some .local) (hv : VRel av v) (h : Q (lset L x av) H) : UW c (storeName c.d.env x v) L H Q := fun R s S => by
 obtain ⟨m, F, hm⟩ := S.fr
 exact wpAny_storeName_local (by unfold Env.kindOf; rw [S.ok.names]; exact hk) F.ns (fun h' hn hs => ⟨_, _, S.bound hm hv (F.set hn hs) hs, h⟩) (notClsMod S.ok.kind)
theorem UW.storeC {x : Str} {ca : Addr} {v : Value} {av : AV} {o₀ : Option AV} {Q : AL → AH → Prop} (hk : c.ns.lookup x = some .cell) (hc : c.cl.lookup x = some ca) (h0 : H ca = some (.cell o₀)) (hv : VRel av v) (h : Q L (hset H ca (.cell (some av)))) :
  UW c (storeName c.d.env x v) L H Q := fun R s S => by
 obtain ⟨o, g, _, _, r⟩ := S.hp _ _ h0
 have hcell : ∃ v₀, s.heap.IsCell ca v₀ := by
  cases o₀ with
  | none => exact ⟨_, o, g, r⟩
  | some a => obtain ⟨v, e, _⟩ := r; exact ⟨_, o, g, e⟩
 obtain ⟨v₀, hcell⟩ := hcell
 refine wpAny_storeName_cell S.ok.kind (by unfold Env.kindOf; rw [S.ok.names]; exact hk) (by rw [S.ok.cells]; exact hc) hcell fun h' hv' hs => ?_
 obtain ⟨o', g', d'⟩ := hv'
 exact ⟨_, _, S.put (ao' := .cell (some av)) h0 (fun b ob hb e => (hs.2 b hb).trans e) g' ⟨v, d', hv⟩, h⟩
noncomputable def StoW (c : Cx) (x : Str) (av : AV) (L : AL) (H : AH) (Q : AL → AH → Prop) : Prop := ∀ v, VRel av v → UW c (storeName c.d.env x v) L H Q
theorem StoW.loc {x : Str} {av : AV} {Q : AL → AH → Prop} (hk : c.ns.lookup x = some .local) (h : Q (lset L x av) H) : StoW c x av L H Q := fun _ hv => UW.store hk hv h
theorem StoW.cel {x : Str} {av : AV} {ca : Addr} {o₀ : Option AV} {Q : AL → AH → Prop} (hk : c.ns.lookup x = some .cell) (hc : c.cl.lookup x = some ca) (h0 : H ca = some (.cell o₀)) (h : Q L (hset H ca (.cell (some av)))) : StoW c x av L H Q := fun _ hv => UW.storeC hk hc h0 hv h
theorem ST.assign {x : Str} {p pos : Pos} {e : Expr} {Q : AF → AL → AH → Prop} (h : EW c e L H fun a H1 => StoW c x a L H1 (Q .next)) (hs : swapsWith e (some (.Name x p)) pos.line c.d.env = pure false := by with_unfolding_all rfl) :
  ST c (.Assign [.Name x p] e pos) L H Q := fun _ _ S =>
 wpAny_Assign_Name (h.run S fun v av H' _ hv S' q => (q v hv).run S' fun L' H'' _ S'' q' => ⟨.next, L', H'', rfl, S'', q'⟩) hs
theorem ST.assignA {ob e : Expr} {x : Str} {p pos : Pos} {Q : AF → AL → AH → Prop} (h : EW c e L H fun a H1 => EW c ob L H1 fun b H2 => SetW c b x a L H2 (Q .next L))
  (hs : swapsWith e (some (.Attribute ob x p)) pos.line c.d.env = pure false := by with_unfolding_all rfl) : ST c (.Assign [.Attribute ob x p] e pos) L H Q := fun _ _ S =>
 plainObj_wpAny_Assign_Attribute (h.run S fun v av H' _ hv S' q => q.run S' fun w aw H'' _ hw S'' q' => (q' w v hw hv).run S'' fun L' H3 _ S3 z => by obtain ⟨e, q3⟩ := z; subst e; exact ⟨.next, _, H3, rfl, S3, q3⟩) hs
theorem ST.assignS {ob ix e : Expr} {p pos : Pos} {Q : AF → AL → AH → Prop} (h : EW c e L H fun a H1 => EW c ob L H1 fun b H2 => EW c ix L H2 fun i H3 => SiW c b i a L H3 (Q .next L))
  (hs : swapsWith e (some (.Subscript ob ix p)) pos.line c.d.env = pure false := by with_unfolding_all rfl) : ST c (.Assign [.Subscript ob ix p] e pos) L H Q := fun _ _ S =>
 wpAny_Assign_Subscript (h.run S fun v av H' _ hv S' q => q.run S' fun w aw H'' _ hw S'' q' => q'.run S'' fun vi ai H3 _ hi S3 q3 => (q3 w vi v hw hi hv).run S3 fun L' H4 _ S4 z => by obtain ⟨e, q4⟩ := z; subst e; exact ⟨.next, _, H4, rfl, S4, q4⟩) hs
theorem ST.augA {ob e : Expr} {x : Str} {op : Operator} {p pos : Pos} {Q : AF → AL → AH → Prop}
  (h : EW c ob L H fun b H1 => GetW c b x L H1 fun old H2 => EW c e L H2 fun v H3 => IpW c op old v L H3 fun new H4 => SetW c b x new L H4 (Q .next L)) : ST c (.AugAssign (.Attribute ob x p) op e pos) L H Q := fun _ _ S =>
 wpAny_AugAssign_AttributeAny (h.run S fun b ab H1 _ hb S1 q1 => (q1 b hb).run S1 fun ov ao H2 _ ho S2 q2 => q2.run S2 fun v av H3 _ hv S3 q3 => (q3 ov v ho hv).run S3 fun n an H4 _ hn S4 q4 =>
  (q4 b n hb hn).run S4 fun L' H5 _ S5 z => by obtain ⟨e, q5⟩ := z; subst e; exact ⟨.next, _, H5, rfl, S5, q5⟩)
end
end
section
section
variable {c : Cx} {L : AL} {H : AH} {Q : AV → AH → Prop} {P : Bool → AH → Prop}
theorem OpW.addI {a b : Int} (h : Q (.int (a + b)) H) : OpW c .Add (.int a) (.int b) L H Q := by
 rintro _ _ ⟨t, rfl⟩ ⟨u, rfl⟩ R s S; exact add_int ⟨.int _, H, ⟨_, rfl⟩, S.toks, h⟩
theorem IpW.addI {a b : Int} (h : Q (.int (a + b)) H) : IpW c .Add (.int a) (.int b) L H Q := by
 rintro _ _ ⟨t, rfl⟩ ⟨u, rfl⟩ R s S; exact iadd_int ⟨.int _, H, ⟨_, rfl⟩, S.toks, h⟩
theorem OpW.subI {a b : Int} (h : Q (.int (a - b)) H) : OpW c .Sub (.int a) (.int b) L H Q := by
 rintro _ _ ⟨t, rfl⟩ ⟨u, rfl⟩ R s S; exact sub_int ⟨.int _, H, ⟨_, rfl⟩, S.toks, h⟩
theorem OpW.mulI {a b : Int} (hm : IntMulOk a b) (h : Q (.int (a * b)) H) : OpW c .Mult (.int a) (.int b) L H Q := by
 rintro _ _ ⟨t, rfl⟩ ⟨u, rfl⟩ R s S; exact mul_int ⟨.int _, H, ⟨_, rfl⟩, S.toks, h⟩ hm
theorem OpW.modI {a b : Int} (hb : b ≠ 0) (h : Q (.int (a.fmod b)) H) : OpW c .Mod (.int a) (.int b) L H Q := by
 rintro _ _ ⟨t, rfl⟩ ⟨u, rfl⟩ R s S; exact mod_int' hb ⟨.int _, H, ⟨_, rfl⟩, S.toks, h⟩
theorem OpW.divI {a b : Int} (hb : b ≠ 0) (hp : b.natAbs.log2 < 9000) (h : Q (.int (a.fdiv b)) H) : OpW c .FloorDiv (.int a) (.int b) L H Q := by
 rintro _ _ ⟨t, rfl⟩ ⟨u, rfl⟩ R s S; exact floordiv_int hb ⟨.int _, H, ⟨_, rfl⟩, S.toks, h⟩ (.inl (PyProof.noPylong_of_log2 hp))
theorem OpW.shrI {a : Int} (h0 : 0 ≤ a) (h : Q (.int (a / 2)) H) : OpW c .RShift (.int a) (.int 1) L H Q := by
 rintro _ _ ⟨t, rfl⟩ ⟨u, rfl⟩ R s S; exact wpAny_rshift1_int h0 ⟨.int _, H, ⟨_, rfl⟩, S.toks, h⟩
theorem OpW.addS {a b : Str} (hz : a.length + b.length ≤ sizeLine) (h : Q (.str (a ++ b)) H) : OpW c .Add (.str a) (.str b) L H Q := by
 rintro _ _ ⟨t, rfl⟩ ⟨u, rfl⟩ R s S; exact add_str (fun t' tk => ⟨.str _, H, ⟨_, rfl⟩, S.toks, h⟩) hz
theorem CmpW.ltI {a b : Int} (h : P (decide (a < b)) H) : CmpW c .Lt (.int a) (.int b) L H P := by
 rintro _ _ ⟨t, rfl⟩ ⟨u, rfl⟩ R s S; exact lt_int ⟨.bool _, H, rfl, S, _, rfl, h⟩
theorem CmpW.gtI {a b : Int} (h : P (decide (b < a)) H) : CmpW c .Gt (.int a) (.int b) L H P := by
 rintro _ _ ⟨t, rfl⟩ ⟨u, rfl⟩ R s S; exact gt_int ⟨.bool _, H, rfl, S, _, rfl, h⟩
theorem CmpW.geI {a b : Int} (h : P (decide (b ≤ a)) H) : CmpW c .GtE (.int a) (.int b) L H P := by
 rintro _ _ ⟨t, rfl⟩ ⟨u, rfl⟩ R s S; exact ge_int ⟨.bool _, H, rfl, S, _, rfl, h⟩
theorem CmpW.eqI {a b : Int} (h : P (a == b) H) : CmpW c .Eq (.int a) (.int b) L H P := by
 rintro _ _ ⟨t, rfl⟩ ⟨u, rfl⟩ R s S; exact eq_int ⟨.bool _, H, rfl, S, _, rfl, h⟩
theorem CmpW.neI {a b : Int} (h : P (a != b) H) : CmpW c .NotEq (.int a) (.int b) L H P := by
 rintro _ _ ⟨t, rfl⟩ ⟨u, rfl⟩ R s S; exact ne_int ⟨.bool _, H, rfl, S, _, rfl, h⟩
theorem CmpW.eqS {a b : Str} (h : P (a == b) H) : CmpW c .Eq (.str a) (.str b) L H P := by
 rintro _ _ ⟨t, rfl⟩ ⟨u, rfl⟩ R s S; exact eq_str ⟨.bool _, H, rfl, S, _, rfl, h⟩
theorem CmpW.neS {a b : Str} (h : P (a != b) H) : CmpW c .NotEq (.str a) (.str b) L H P := by
 rintro _ _ ⟨t, rfl⟩ ⟨u, rfl⟩ R s S; exact ne_str ⟨.bool _, H, rfl, S, _, rfl, h⟩
theorem CmpW.inS {a b : Str} (h : P (!(Builtin.Str.occurrences b a 0 b.length 1).isEmpty) H) : CmpW c .In (.str a) (.str b) L H P := by
 rintro _ _ ⟨t, rfl⟩ ⟨u, rfl⟩ R s S; exact in_str ⟨.bool _, H, rfl, S, _, rfl, h⟩
noncomputable def AV.isNone : AV → Bool
 | .none => true
 | _ => false
noncomputable def AV.isBlt : AV → Bool
 | .blt _ => true
 | _ => false
theorem isNone_rel {a : AV} {v : Value} (h : VRel a v) (hb : a.isBlt = false) : (v == Value.none) = a.isNone ∧ PySem.plainIs v .none = true := by
 cases a with
 | none => cases h; exact ⟨rfl, rfl⟩
 | bool b => cases h; exact ⟨rfl, rfl⟩
 | int i => obtain ⟨t, rfl⟩ := h; exact ⟨rfl, rfl⟩
 | str i => obtain ⟨t, rfl⟩ := h; exact ⟨rfl, rfl⟩
 | ref x => cases h; exact ⟨rfl, rfl⟩
 | blt i => cases hb
 | typ i => cases h; exact ⟨rfl, rfl⟩
theorem CmpW.isN {a : AV} (hb : a.isBlt = false) (h : P a.isNone H) : CmpW c .Is a .none L H P := by
 rintro va _ ha rfl R s S
 obtain ⟨e, p⟩ := isNone_rel ha hb
 exact wpAny_is_plain p ⟨.bool _, H, rfl, S, _, rfl, by rw [e]; exact h⟩
theorem CmpW.isNotN {a : AV} (hb : a.isBlt = false) (h : P (!a.isNone) H) : CmpW c .IsNot a .none L H P := by
 rintro va _ ha rfl R s S
 obtain ⟨e, p⟩ := isNone_rel ha hb
 exact wpAny_isNot_plain p ⟨.bool _, H, rfl, S, _, rfl, by rw [e]; exact h⟩
theorem CmpW.isNotT {a b : String} (h : P (!(Value.type a == Value.type b)) H) : CmpW c .IsNot (.typ a) (.typ b) L H P := by
 rintro _ _ rfl rfl R s S
 exact wpAny_isNot_plain rfl ⟨.bool _, H, rfl, S, _, rfl, h⟩
theorem CmpW.isNotRef {a b : Addr} {oa ob : Obj} (hne : a ≠ b) (ha : (Kf c.d.w.params).lookup a = some oa) (hb : (Kf c.d.w.params).lookup b = some ob) (ht : oa.cls ≠ .type "tuple") (h : P true H) : CmpW c .IsNot (.ref a) (.ref b) L H P := by
 rintro _ _ rfl rfl R s S
 exact wpAny_isNot_ref_other hne (S.kin _ _ ha) (S.kin _ _ hb) ht ⟨.bool _, H, rfl, S, _, rfl, h⟩
theorem CmpW.isNotSelf {a : Addr} (h : P false H) : CmpW c .IsNot (.ref a) (.ref a) L H P := by
 rintro _ _ rfl rfl R s S
 exact wpAny_isNot_ref_self ⟨.bool _, H, rfl, S, _, rfl, h⟩
-- truth
theorem TrW.bool {b : Bool} (h : P b H) : TrW c (.bool b) L H P := by rintro _ rfl R s S; exact wpAny_truthy_bool ⟨H, S, h⟩
theorem TrW.str {x : Str} (hz : x.length ≤ sizeLine) (h : P ((x.length : Int) != 0) H) : TrW c (.str x) L H P := by
 rintro _ ⟨t, rfl⟩ R s S; exact SBL.truthy (Int.lt_of_le_of_lt (Int.ofNat_le.mpr hz) (by decide)) ⟨H, S.toks, h⟩
theorem TrW.list {a : Addr} {xs : List AV} (ha : H a = some (.list xs)) (hz : xs.length ≤ sizeLine) (h : P (!xs.isEmpty) H) : TrW c (.ref a) L H P := by
 rintro _ rfl R s S
 obtain ⟨ob, g, _, _, vs, n, rfl, hv⟩ := S.hp _ _ ha
 refine wpAny_truthy_list ⟨_, g, rfl, _, rfl⟩ (by rw [List.size_toArray, ← hv.length]; exact Int.lt_of_le_of_lt (Int.ofNat_le.mpr hz) (by decide)) ⟨H, S.toks, ?_⟩
 have e : vs.toArray.isEmpty = xs.isEmpty := by cases hv <;> rfl
 rw [e]; exact h
-- items
noncomputable def SbW (c : Cx) (value slice : Expr) (a i : AV) (L : AL) (H : AH) (Q : AV → AH → Prop) : Prop := ∀ v vi, VRel a v → VRel i vi → TW c (subscriptTail value slice v vi) L H Q
theorem EW.sub {e sl : Expr} {pos : Pos} (h : EW c e L H fun a H1 => EW c sl L H1 fun i H2 => SbW c e sl a i L H2 Q) : EW c (.Subscript e sl pos) L H Q := fun _ _ S =>
 Subscript_ (h.run S fun _ _ _ _ hv S' q => q.run S' fun _ _ _ _ hv' S'' q' => q' _ _ hv hv' _ _ S'')
theorem fit63 {k : Int} {n : Nat} (h : k < n) (hz : n ≤ 1000000) : k < 2 ^ 63 := by
 have : (n : Int) ≤ 1000000 := Int.ofNat_le.mpr hz
 have e : (2 : Int) ^ 63 = 9223372036854775808 := by decide
 omega
theorem SbW.list {value sl : Expr} {a : Addr} {xs : List AV} {k : Int} {x : AV} (ha : H a = some (.list xs)) (h0 : 0 ≤ k) (hx : xs[k.toNat]? = some x) (hz : xs.length ≤ 1000000) (h : Q x H)
  (hs : ∀ v vi, subscripted sl false v vi = operate [v, vi] (getItem v vi) := by intros; with_unfolding_all rfl) : SbW c value sl (.ref a) (.int k) L H Q := by
 rintro _ _ rfl ⟨t, rfl⟩ R s S
 obtain ⟨ob, g, _, _, vs, n, rfl, hv⟩ := S.hp _ _ ha
 obtain ⟨v, hv1, hv2⟩ := hv.get hx
 have hk : k < xs.length := lt_toNat h0 (List.getElem?_eq_some_iff.mp hx).1
 have hl : s.heap.IsList a vs.toArray := ⟨_, g, rfl, _, rfl⟩
 exact tail_any hl.typeIs slot_list_getitem.lookup (wpAny_getItem_list hl h0 (fit63 hk hz) (by simpa using hv1) ⟨x, H, hv2, S, h⟩) (hs _ _)
theorem SbW.listLast {value sl : Expr} {a : Addr} {xs : List AV} {x : AV} (ha : H a = some (.list xs)) (hx : xs.getLast? = some x) (hz : xs.length ≤ 1000000) (h : Q x H)
  (hs : ∀ v vi, subscripted sl false v vi = operate [v, vi] (getItem v vi) := by intros; with_unfolding_all rfl) : SbW c value sl (.ref a) (.int (-1)) L H Q := by
 rintro _ _ rfl ⟨t, rfl⟩ R s S
 obtain ⟨ob, g, _, _, vs, n, rfl, hv⟩ := S.hp _ _ ha
 rw [List.getLast?_eq_getElem?] at hx
 obtain ⟨v, hv1, hv2⟩ := hv.get hx
 have hl : s.heap.IsList a vs.toArray := ⟨_, g, rfl, _, rfl⟩
 have hlen := hv.length
 have hpos : 0 < xs.length := by
  exact Nat.lt_of_le_of_lt (Nat.zero_le _) (List.getElem?_eq_some_iff.mp hx).1
 have hsz : vs.toArray.size = xs.length := by rw [List.size_toArray, hlen]
 refine tail_any hl.typeIs slot_list_getitem.lookup (wpAny_getItem_list_neg hl (by decide) (by rw [hsz]; exact Int.neg_le_neg (Int.ofNat_le.mpr hpos)) (by decide) (x := v) ?_ ⟨x, H, hv2, S, h⟩) (hs _ _)
 rw [hsz]
 have : (-1 + (xs.length : Int)).toNat = xs.length - 1 := last_idx _
 rw [this]
 simpa using hv1
theorem SbW.tup {value sl : Expr} {a : Addr} {xs : List AV} {k : Int} {x : AV} (ha : H a = some (.tup xs)) (h0 : 0 ≤ k) (hx : xs[k.toNat]? = some x) (hz : xs.length ≤ 1000000) (h : Q x H)
  (hs : ∀ v vi, subscripted sl false v vi = operate [v, vi] (getItem v vi) := by intros; with_unfolding_all rfl) : SbW c value sl (.ref a) (.int k) L H Q := by
 rintro _ _ rfl ⟨t, rfl⟩ R s S
 obtain ⟨ob, g, _, _, vs, n, rfl, hv⟩ := S.hp _ _ ha
 obtain ⟨v, hv1, hv2⟩ := hv.get hx
 have hk : k < xs.length := lt_toNat h0 (List.getElem?_eq_some_iff.mp hx).1
 have hlen := hv.length
 exact item_tupleT ⟨_, g, rfl, _, rfl⟩ (Int.le_trans (by decide) h0) (fit63 hk hz) (j := k.toNat) (by
  unfold seqIndex?
  simp only [← hlen]
  first | (rw [if_pos (by omega)]) | (split <;> simp_all <;> omega)) hv1 ⟨x, H, hv2, S, h⟩ (hs _ _)
theorem mapSeq_list (f : Array Value → Array Value) (its : Array Value) (n : Nat) : ∃ n', Obj.mapSeq f (listOf its n) = listOf (f its) n' := by
 unfold Obj.mapSeq W.listOf
 exact ⟨_, rfl⟩
theorem put_list {c : Cx} {L : AL} {H : AH} {R : List (Addr × Obj)} {s : Shared} (S : Sim c L H R s) {a : Addr} {xs ys : List AV} {vs ws : List Value} {n : Nat} {f : Array Value → Array Value} (ha : H a = some (.list xs)) (g : s.heap.get? a = some (listOf vs.toArray n))
  (e : f vs.toArray = ws.toArray) (hr : VRels ys ws) : Sim c L (hset H a (.list ys)) R { s with heap := s.heap.update a (Obj.mapSeq f) } := by
 obtain ⟨n', e'⟩ := mapSeq_list f vs.toArray n
 rw [e] at e'
 exact S.put (tk := s.toks) (o := listOf ws.toArray n') ha (fun b ob hb q => ((Heap.SameBut.update ..).2 b hb).trans q) (by rw [Heap.get?_update_self _ g (by rw [e']; rfl), e']) ⟨ws, n', rfl, hr⟩
theorem SiW.list {a : Addr} {xs : List AV} {k : Int} {x : AV} {Q : AH → Prop} (ha : H a = some (.list xs)) (h0 : 0 ≤ k) (hk : k < xs.length) (hz : xs.length ≤ 1000000) (h : Q (hset H a (.list (xs.set k.toNat x)))) : SiW c (.ref a) (.int k) x L H Q := by
 rintro _ _ vx rfl ⟨t, rfl⟩ hx R s S
 obtain ⟨ob, g, _, _, vs, n, rfl, hv⟩ := S.hp _ _ ha
 have hlen := hv.length
 refine ki_setAt g h0 (fit63 hk hz) (by rw [List.size_toArray, ← hlen]; exact hk) ⟨_, _, put_list S ha g ?_ (hv.set hx k.toNat), rfl, h⟩
 apply Array.toList_inj.mp
 simp
end
end
section
section
variable {c : Cx} {L : AL} {H : AH} {R : List (Addr × Obj)} {s : Shared}
-- assignment to targets
noncomputable def AsW (c : Cx) (t : Expr) (a : AV) (L : AL) (H : AH) (Q : AL → AH → Prop) : Prop := ∀ v, VRel a v → UW c (assign t c.d.env v) L H Q
theorem AsW.name {x : Str} {pos : Pos} {a : AV} {Q : AL → AH → Prop} (h : StoW c x a L H Q) : AsW c (.Name x pos) a L H Q := fun v hv R s S =>
 wpAny_assign_Name (h v hv R s S)
noncomputable def AsEach (c : Cx) : List Expr → List AV → AL → AH → (AL → AH → Prop) → Prop
 | e :: es, a :: as, L, H, Q => AsW c e a L H fun L' H' => AsEach c es as L' H' Q
 | _, _, L, H, Q => Q L H
theorem AsEach.nil {Q : AL → AH → Prop} (h : Q L H) : AsEach c [] [] L H Q := h
theorem AsEach.run {env : Env} (he : env = c.d.env) {es : List Expr} : ∀ {as : List AV} {vs : List Value} {L : AL} {H : AH} {Q : AL → AH → Prop} {s : Shared}, AsEach c es as L H Q → es.length = as.length → VRels as vs → Sim c L H R s →
  wpAny (model prg c.d.w) c.d.A (assignInOrder ((es.map fun e => (false, assign e env)).map (·.2)) vs) (UQ c R Q) nE s := by
 induction es with
 | nil =>
  intro as vs L H Q s h hl hv S
  cases as with
  | nil => cases hv; exact wpAny_pure ⟨L, H, S, h⟩
  | cons => cases hl
 | cons e es ih =>
  intro as vs L H Q s h hl hv S
  cases as with
  | nil => cases hl
  | cons a as =>
   cases hv with
   | cons hv ht =>
    show wpAny _ _ (do holding _ (assign e env _); assignInOrder _ _) _ _ _
    subst he
    exact wpAny_bind (wpAny_holding ((h _ hv).run S fun L' H' s' S' q => ih q (Nat.succ.inj hl) ht S'))
noncomputable abbrev sizedTup (H : AH) (t : Addr) (as : List AV) : Prop := H t = some (.tup as)
theorem newAt (h : Heap) : h.get? h.objs.size = none := by
 cases q : h.get? h.objs.size with
 | none => rfl
 | some x => exact absurd (Heap.lt_size q) (Nat.lt_irrefl _)
theorem Sim.extAt (S : Sim c L H R s) {it : Addr} {h' : Heap} {tk : Nat} (hn : s.heap.get? it = none) (hk : Heap.ExtBut it s.heap h') : Sim c L H R { s with heap := h', toks := tk } :=
 S.ext (dr := s.drawn) fun b o e => hk b o (fun q => by rw [q, hn] at e; cases e) e
theorem AsW.tup {elts : List Expr} {k : Nat} {pos : Pos} {t : Addr} {as : List AV} {Q : AL → AH → Prop} (ht : H t = some (.tup as)) (hl : elts.length = as.length) (h : AsEach c elts as L H Q)
  (he : assignEach elts c.d.env = elts.map fun e => (false, assign e c.d.env) := by with_unfolding_all rfl) : AsW c (.Tuple elts k pos) (.ref t) L H Q := by
 rintro _ rfl R s S
 obtain ⟨ob, g, _, _, vs, n, rfl, hv⟩ := S.hp _ _ ht
 refine wpAny_assign_Tuple S.ok.handled ⟨_, g, rfl, _, rfl⟩ (by rw [he, List.length_map, hl, hv.length, List.size_toArray]) (by rw [he]; simp) fun h' hx => ?_
 rw [he]
 exact h.run rfl hl hv (S.extAt (tk := s.toks) (newAt _) hx)
-- drawing from a list
theorem wpAny_draw_list {A : Around} {E : Value → Shared → Prop} {w : World} {t it : Addr} {items : Array Value} (hne : t ≠ it) :
  ∀ (n i : Nat) (s : Shared) (Q : List Value → Shared → Prop), s.heap.IsListIter it t i → s.heap.IsList t items → i + n ≤ items.size →
  (∀ h', h'.IsListIter it t (i + n) → Heap.SameBut it s.heap h' → Q ((items.toList.drop i).take n) { s with heap := h' }) → wpAny (model prg w) A (draw (.ref it) n) Q E s := by
 intro n
 induction n with
 | zero =>
  intro i s Q hit _ _ hQ
  show wpAny _ _ (pure []) Q E s
  exact wpAny_pure (by simpa using hQ s.heap hit (Heap.SameBut.refl ..))
 | succ n IH =>
  intro i s Q hit ht hle hQ
  have hlt : i < items.size := by omega
  unfold draw
  refine wpAny_bind (wpAny_pyNext_list_item hit ht (Array.getElem?_eq_getElem hlt) fun h₁ hit₁ hs₁ => ?_)
  refine wpAny_bind (wpAny_holding (IH (i + 1) _ _ hit₁ (ht.extBut hs₁.extBut hne) (by omega) fun h₂ hit₂ hs₂ => ?_))
  refine wpAny_pure ?_
  have e : (items.toList.drop i).take (n + 1) = items[i] :: (items.toList.drop (i + 1)).take n := by
   rw [List.drop_eq_getElem_cons (by simpa using hlt), List.take_succ_cons, Array.getElem_toList]
  rw [← e]
  exact hQ h₂ (by have : i + (n + 1) = i + 1 + n := by omega
                  rw [this]; exact hit₂) (hs₁.trans hs₂)
theorem wpAny_unpackItems_list {A : Around} {E : Value → Shared → Prop} {w : World} {t : Addr} {items : Array Value} {Q : List Value → Shared → Prop} (hh : A.handled = none) (ht : s.heap.IsList t items)
  (hQ : ∀ h', Heap.ExtBut s.heap.objs.size s.heap h' → Q items.toList { s with heap := h' }) : wpAny (model prg w) A (unpackItems (.ref t) items.size none) Q E s := by
 have hlt : t ≠ s.heap.objs.size := by obtain ⟨o, ho, _⟩ := ht; exact Nat.ne_of_lt (Heap.lt_size ho)
 unfold unpackItems
 refine wpAny_bind ?_
 unfold notIterableAtAll
 refine wpAny_bind (wpAny_specialOf ht.typeIs slot_list_iter.lookup ?_)
 refine wpAny_pure ?_
 simp only [Bool.false_eq_true, if_false]
 refine wpAny_bind (wpAny_holding (wpAny_pyIter_list ht ?_))
 refine wpAny_bind (wpAny_holding (wpAny_draw_list hlt items.size 0 _ _ ⟨_, Heap.get?_push_size _ rfl, rfl, rfl⟩ (ht.push _) (by omega) fun h₁ hit₁ hs₁ => ?_))
 have hall : List.take items.size (List.drop 0 items.toList) = items.toList := by
  rw [List.drop_zero]; exact List.take_of_length_le (by simp)
 rw [hall]
 rw [if_neg (by simp)]
 have ht₁ : h₁.IsList t items := (ht.push _).extBut hs₁.extBut hlt
 refine wpAny_bind (wpAny_holding (wpAny_pyNext_list_end hh hit₁ ht₁ (by simp) fun h₂ he₂ => ?_))
 simp only [Option.isSome_none, Bool.false_eq_true, if_false]
 refine wpAny_pure (hQ h₂ fun b o hb e => he₂ b o hb (hs₁.extBut b o hb (Heap.get?_push_of_some _ e)))
theorem AsW.lst {elts : List Expr} {k : Nat} {pos : Pos} {t : Addr} {as : List AV} {Q : AL → AH → Prop} (ht : H t = some (.list as)) (hl : elts.length = as.length) (h : AsEach c elts as L H Q)
  (he : assignEach elts c.d.env = elts.map fun e => (false, assign e c.d.env) := by with_unfolding_all rfl) : AsW c (.Tuple elts k pos) (.ref t) L H Q := by
 rintro _ rfl R s S
 obtain ⟨ob, g, _, _, vs, n, rfl, hv⟩ := S.hp _ _ ht
 show wpAny _ _ (do standAt _; unpack _ (assignEach elts c.d.env)) _ _ _
 refine wpAny_bind (wpAny_standAt ?_)
 unfold unpack
 rw [show (assignEach elts c.d.env).length = vs.toArray.size by rw [he, List.length_map, hl, hv.length, List.size_toArray], show (assignEach elts c.d.env).findIdx? (·.1) = none by rw [he]; simp]
 refine wpAny_bind (wpAny_holding (wpAny_unpackItems_list S.ok.handled ⟨_, g, rfl, _, rfl⟩ fun h' hx => ?_))
 rw [he]
 exact h.run rfl hl hv (S.extAt (tk := s.toks) (newAt _) hx)
theorem ST.assignT {elts : List Expr} {k : Nat} {tp pos : Pos} {e : Expr} {Q : AF → AL → AH → Prop} (h : EW c e L H fun a H1 => AsW c (.Tuple elts k tp) a L H1 (Q .next))
  (hs : swapsWithSole [Expr.Tuple elts k tp] e pos.line c.d.env = pure false := by with_unfolding_all rfl) (hs2 : swappedStores [Expr.Tuple elts k tp] e c.d.env = pure none := by with_unfolding_all rfl) :
  ST c (.Assign [.Tuple elts k tp] e pos) L H Q := fun _ _ S =>
 PyProof.Rows.Assign_Tuple (h.run S fun v av H' _ hv S' q => (q v hv).run S' fun L' H'' _ S'' q' => ⟨.next, L', H'', rfl, S'', q'⟩) hs hs2
-- loops
theorem Sim.setR {it : Addr} {o o' : Obj} {h' : Heap} {tk : Nat} (S : Sim c L H ((it, o) :: R) s) (hn : ∀ p ∈ R, p.1 ≠ it) (hs : Heap.SameBut it s.heap h') (ho : h'.get? it = some o') : Sim c L H ((it, o') :: R) { s with heap := h', toks := tk } := by
 have N := S.nw _ (.head _)
 have S1 : Sim c L H R s := S.dropR fun p hp => .tail _ hp
 have hit : H it = none := S.sep _ (.head _)
 have S2 : Sim c L H R { s with heap := h', toks := tk } := S1.moved (dr := s.drawn) (X := (· = it)) (fun b o hb e => (hs.2 b hb).trans e) (fun q => N.2.1 q.symm) (fun b o e q => by rw [q, N.2.2] at e; cases e) hn
  (fun a ao e q => by rw [q, hit] at e; cases e) (fun e q => (S.frm e).nr _ (.head _) q.symm)
 exact ⟨S2.ok, S2.fr, fun p hp => by
  rcases List.mem_cons.mp hp with rfl | hp
  ·exact ⟨ho, N.2⟩
  ·exact S2.nw p hp, S2.hp, S2.fin, fun p hp => by
  rcases List.mem_cons.mp hp with rfl | hp
  ·exact hit
  ·exact S2.sep p hp, S2.gens, S2.os, fun e => let f := S2.frm e; ⟨f.ns, f.nl, f.nh, fun p hp => by
  rcases List.mem_cons.mp hp with rfl | hp
  ·exact (S.frm e).nr (it, o) (.head _)
  ·exact f.nr p hp⟩⟩
theorem Sim.endR {it : Addr} {o : Obj} {h' : Heap} {tk : Nat} (S : Sim c L H ((it, o) :: R) s) (hn : ∀ p ∈ R, p.1 ≠ it) (hs : Heap.ExtBut it s.heap h') : Sim c L H R { s with heap := h', toks := tk } := by
 have N := S.nw _ (.head _)
 have S1 : Sim c L H R s := S.dropR fun p hp => .tail _ hp
 have hit : H it = none := S.sep _ (.head _)
 exact S1.moved (dr := s.drawn) (X := (· = it)) (fun b o hb e => hs b o hb e) (fun q => N.2.1 q.symm) (fun b o e q => by rw [q, N.2.2] at e; cases e) hn
  (fun a ao e q => by rw [q, hit] at e; cases e) (fun e q => (S.frm e).nr _ (.head _) q.symm)
theorem Sim.pushR (S : Sim c L H R s) {o : Obj} (hl : o.isFreed = false) : (∀ p ∈ R, p.1 ≠ s.heap.objs.size) ∧ Sim c L H ((s.heap.objs.size, o) :: R) { s with heap := s.heap.push o } := by
 have hn := newAt s.heap
 have hR : ∀ p ∈ R, p.1 ≠ s.heap.objs.size := fun p hp q => by have := (S.nw p hp).1; rw [q, hn] at this; cases this
 have S2 : Sim c L H R { s with heap := s.heap.push o } := S.ext (tk := s.toks) (dr := s.drawn) fun _ _ e => Heap.get?_push_of_some _ e
 have hH : H s.heap.objs.size = none := by
  cases q : H s.heap.objs.size with
  | none => rfl
  | some x => obtain ⟨o', h1, _⟩ := S.hp _ x q; rw [hn] at h1; cases h1
 obtain ⟨m, F, hm⟩ := S.fr
 refine ⟨hR, S2.ok, S2.fr, fun p hp => ?_, S2.hp, S2.fin, fun p hp => ?_, S2.gens, S2.os, fun e => let f := S2.frm e; ⟨f.ns, f.nl, f.nh, fun p hp => by
  rcases List.mem_cons.mp hp with rfl | hp
  ·intro q
   obtain ⟨x, _, _, hx, _⟩ := (S.frm e).ns
   rw [← q, hn] at hx; cases hx
  ·exact f.nr p hp⟩⟩
 ·rcases List.mem_cons.mp hp with rfl | hp
  ·refine ⟨Heap.get?_push_size _ hl, fun q => ?_, ?_⟩
   ·obtain ⟨oL, es, ep, hoL, _⟩ := F.ns
    rw [← q, hn] at hoL; cases hoL
   ·cases z : c.d.h₀.get? s.heap.objs.size with
    | none => rfl
    | some x => have := F.keep _ _ z; rw [hn] at this; cases this
  ·exact S2.nw p hp
 ·rcases List.mem_cons.mp hp with rfl | hp
  ·exact hH
  ·exact S2.sep p hp
inductive ItV (c : Cx) (it : Addr) (St : Nat → Obj → Prop) (a : AV) (i : Nat) (L : AL) (H : AH) (R : List (Addr × Obj)) (r : Option Value) (s' : Shared) : Prop
 | mk' (v : Value) (o' : Obj) (e : r = some v) (hv : VRel a v) (st : St (i + 1) o') (S : Sim c L H ((it, o') :: R) s')
structure ItSpec (c : Cx) (it : Addr) (St : Nat → Obj → Prop) (src : AH → Prop) (xs : List AV) : Prop where
 item : ∀ {i a L H R o s} (E : Value → Shared → Prop), src H → xs[i]? = some a → St i o → (∀ p ∈ R, p.1 ≠ it) → Sim c L H ((it, o) :: R) s →
  wpAny (model prg c.d.w) c.d.A (pyNext (.ref it)) (ItV c it St a i L H R) E s
 done : ∀ {i L H R o s} (E : Value → Shared → Prop), src H → xs[i]? = none → St i o → (∀ p ∈ R, p.1 ≠ it) → Sim c L H ((it, o) :: R) s →
  wpAny (model prg c.d.w) c.d.A (pyNext (.ref it)) (fun r s' => r = none ∧ Sim c L H R s') E s
 self : ∀ {i L H R o s} {E : Value → Shared → Prop} {Q : Value → Shared → Prop}, St i o → Sim c L H ((it, o) :: R) s → Q (.ref it) s → wpAny (model prg c.d.w) c.d.A (pyIter (.ref it)) Q E s
 go : ∀ {i L H R o s t v} {E : Value → Shared → Prop} {Q : Unit → Shared → Prop}, St i o → Sim c L H ((it, o) :: R) s → Q () s → wpAny (model prg c.d.w) c.d.A (letOwnedTupleGo t (.ref it) v) Q E s
theorem goAny {w : World} {A : Around} {t : Expr} {it : Addr} {v : Value} {o : Obj} {n : String} {vs : Array Value} {E : Value → Shared → Prop} {Q : Unit → Shared → Prop} (ho : s.heap.get? it = some o) (hc : o.cls = .type n) (hd : o.data = .fields vs)
  (hn : (["enumerate", "zip", "dict_itemiterator", "dict_reverseitemiterator", "odict_iterator", "itertools.zip_longest", "itertools.pairwise"].contains n) = false) (hQ : Q () s) : wpAny (model prg w) A (letOwnedTupleGo t (.ref it) v) Q E s := by
 have key : ∀ elts : List Expr, wpAny (model prg w) A (letOwnedTupleGo (.Tuple elts 0 default) (.ref it) v) Q E s := fun elts => by
  cases v with
  | ref a =>
   unfold letOwnedTupleGo
   refine wpAny_bind (wpAny_load ho ?_)
   rw [hc, hd]
   show wpAny _ A (if (_ && _) = true then _ else _) Q E s
   rw [if_neg (by rw [hn]; exact fun h => nomatch h)]
   exact wpAny_pure hQ
  | _ => exact wpAny_pure hQ
 cases t with
 | Tuple elts k p => exact key elts
 | List elts p => exact key elts
 | _ => exact wpAny_pure hQ
noncomputable def stL (l : Addr) (i : Nat) (o : Obj) : Prop := o.cls = .type "list_iterator" ∧ o.data = .fields #[.ref l, .int i 0]
noncomputable def stT (l : Addr) (i : Nat) (o : Obj) : Prop := o.cls = .type "tuple_iterator" ∧ o.data = .fields #[.ref l, .int i 0]
theorem isL {l : Addr} {xs : List AV} (S : Sim c L H R s) (hl : H l = some (.list xs)) : ∃ vs : List Value, VRels xs vs ∧ s.heap.IsList l vs.toArray := by
 obtain ⟨ob, g, _, _, vs, n, rfl, hv⟩ := S.hp _ _ hl
 exact ⟨vs, hv, ⟨_, g, rfl, _, rfl⟩⟩
theorem isT {l : Addr} {xs : List AV} (S : Sim c L H R s) (hl : H l = some (.tup xs)) : ∃ vs : List Value, VRels xs vs ∧ s.heap.IsTuple l vs.toArray := by
 obtain ⟨ob, g, _, _, vs, n, rfl, hv⟩ := S.hp _ _ hl
 exact ⟨vs, hv, ⟨_, g, rfl, _, rfl⟩⟩
theorem itList {it l : Addr} {xs : List AV} (hh : c.d.A.handled = none) : ItSpec c it (stL l) (fun H => H l = some (.list xs)) xs where
 item := fun {i a L H R o s} E hs hx st hn S => by
  obtain ⟨vs, hv, hl⟩ := isL S hs
  obtain ⟨v, e, r⟩ := hv.get hx
  refine wpAny_pyNext_list_item ⟨o, (S.nw _ (.head _)).1, st⟩ hl (by simpa using e) fun h' hi hb => ?_
  obtain ⟨o', g, st'⟩ := hi
  exact ⟨v, o', rfl, r, st', S.setR (tk := s.toks) hn hb g⟩
 done := fun {i L H R o s} E hs hx st hn S => by
  obtain ⟨vs, hv, hl⟩ := isL S hs
  refine wpAny_pyNext_list_end hh ⟨o, (S.nw _ (.head _)).1, st⟩ hl (by have := hv.length; simp at hx ⊢; omega) fun h' hb => ?_
  exact ⟨rfl, S.endR (tk := s.toks) hn hb⟩
 self := fun {i L H R o s E Q} st S hQ => wpAny_pyIter_listiter ⟨o, (S.nw _ (.head _)).1, st⟩ hQ
 go := fun {i L H R o s t v E Q} st S hQ => goAny (S.nw _ (.head _)).1 st.1 st.2 (by decide) hQ
theorem itTup {it l : Addr} {xs : List AV} (hh : c.d.A.handled = none) : ItSpec c it (stT l) (fun H => H l = some (.tup xs)) xs where
 item := fun {i a L H R o s} E hs hx st hn S => by
  obtain ⟨vs, hv, hl⟩ := isT S hs
  obtain ⟨v, e, r⟩ := hv.get hx
  refine wpAny_pyNext_tuple_item ⟨o, (S.nw _ (.head _)).1, st⟩ hl (by simpa using e) fun h' hi hb => ?_
  obtain ⟨o', g, st'⟩ := hi
  exact ⟨v, o', rfl, r, st', S.setR (tk := s.toks) hn hb g⟩
 done := fun {i L H R o s} E hs hx st hn S => by
  obtain ⟨vs, hv, hl⟩ := isT S hs
  refine wpAny_pyNext_tuple_end hh ⟨o, (S.nw _ (.head _)).1, st⟩ hl (by have := hv.length; simp at hx ⊢; omega) fun h' hb => ?_
  exact ⟨rfl, S.endR (tk := s.toks) hn hb⟩
 self := fun {i L H R o s E Q} st S hQ => wpAny_pyIter_tupleiter ⟨o, (S.nw _ (.head _)).1, st⟩ hQ
 go := fun {i L H R o s t v E Q} st S hQ => goAny (S.nw _ (.head _)).1 st.1 st.2 (by decide) hQ
theorem rangeSize_nat0 (n : Nat) : Builtin.Range.rangeSize 0 n 1 = n := by
 unfold Builtin.Range.rangeSize
 rw [if_pos (by decide)]
 split
 ·omega
 ·omega
theorem smallR {n : Nat} (h : n ≤ 1000000) : Builtin.Range.small 0 n 1 = true := by
 exact small_one (by decide) (by decide) (by omega) (by omega)
noncomputable def rawInt' (i : Int) : Value := rawInt i
noncomputable def stR (n : Nat) (i : Nat) (o : Obj) : Prop := i ≤ n ∧ o = { cls := .type "range_iterator", dict := none, data := .fields #[rawInt (i : Int), rawInt ((n : Int) - i), rawInt 1], slots := #[] }
noncomputable def rangeO (n : Nat) (t u v : Tok) : Obj := { cls := .type "range", dict := none, data := .fields #[.int 0 t, .int n u, .int 1 v], slots := #[] }
noncomputable def upTo (n : Nat) : List AV := (List.range n).map fun i => .int (i : Nat)
theorem upTo_get {n i : Nat} (h : i < n) : (upTo n)[i]? = some (.int i) := by unfold upTo; rw [List.getElem?_map, List.getElem?_range h]; rfl
theorem upTo_len (n : Nat) : (upTo n).length = n := by unfold upTo; simp
theorem itRange {it : Addr} {n : Nat} (hh : c.d.A.handled = none) : ItSpec c it (stR n) (fun _ => True) (upTo n) where
 item := fun {i a L H R o s} E hs hx st hn S => by
  obtain ⟨hi, rfl⟩ := st
  have hlt : i < n := by have := (List.getElem?_eq_some_iff.mp hx).1; rwa [upTo_len] at this
  rw [upTo_get hlt] at hx
  cases hx
  refine wpAny_pyNext_range_item (S.nw _ (.head _)).1 (by omega) fun h' hi' hb => ?_
  exact ⟨_, _, rfl, ⟨s.toks, rfl⟩, ⟨hlt, by rw [show (i : Int) + 1 = ((i + 1 : Nat) : Int) by omega, show (n : Int) - i - 1 = (n : Int) - ((i + 1 : Nat) : Int) by omega]⟩, S.setR (tk := s.toks + 1) hn hb hi'⟩
 done := fun {i L H R o s} E hs hx st hn S => by
  obtain ⟨hi, rfl⟩ := st
  have hge : n ≤ i := by have := List.getElem?_eq_none_iff.mp hx; rwa [upTo_len] at this
  refine wpAny_pyNext_range_end hh (S.nw _ (.head _)).1 (by omega) fun h' hb => ?_
  exact ⟨rfl, S.endR (tk := s.toks) hn hb⟩
 self := fun {i L H R o s E Q} st S hQ => by
  obtain ⟨hi, rfl⟩ := st
  exact wpAny_pyIter_rangeiter (S.nw _ (.head _)).1 hQ
 go := fun {i L H R o s t v E Q} st S hQ => by
  obtain ⟨hi, rfl⟩ := st
  exact goAny (S.nw _ (.head _)).1 rfl rfl (by decide) hQ
inductive ItR (c : Cx) (L : AL) (H : AH) (R : List (Addr × Obj)) (src : AH → Prop) (xs : List AV) (r : Value) (s' : Shared) : Prop
 | mk' (it : Addr) (o : Obj) (St : Nat → Obj → Prop) (e : r = .ref it) (spec : ∀ c' : Cx, c'.d.A.handled = none → ItSpec c' it St src xs) (st : St 0 o) (hn : ∀ p ∈ R, p.1 ≠ it) (S : Sim c L H ((it, o) :: R) s')
noncomputable def IterW (c : Cx) (a : AV) (H : AH) (src : AH → Prop) (xs : List AV) : Prop := ∀ v, VRel a v → ∀ L R s (E : Value → Shared → Prop), Sim c L H R s →
 wpAny (model prg c.d.w) c.d.A (pyIter v) (ItR c L H R src xs) E s
theorem IterW.list {l : Addr} {xs : List AV} (hl : H l = some (.list xs)) : IterW c (.ref l) H (fun H => H l = some (.list xs)) xs := by
 rintro _ rfl L R s E S
 obtain ⟨vs, hv, hL⟩ := isL S hl
 refine wpAny_pyIter_list hL ?_
 obtain ⟨hn, S'⟩ := S.pushR (o := { cls := Value.type "list_iterator", data := Data.fields #[Value.ref l, Value.int 0 0] }) rfl
 exact ⟨_, _, stL l, rfl, fun _ hh => itList hh, ⟨rfl, rfl⟩, hn, S'⟩
theorem IterW.tup {l : Addr} {xs : List AV} (hl : H l = some (.tup xs)) : IterW c (.ref l) H (fun H => H l = some (.tup xs)) xs := by
 rintro _ rfl L R s E S
 obtain ⟨vs, hv, hL⟩ := isT S hl
 refine wpAny_pyIter_tuple hL ?_
 obtain ⟨hn, S'⟩ := S.pushR (o := { cls := Value.type "tuple_iterator", data := Data.fields #[Value.ref l, Value.int 0 0] }) rfl
 exact ⟨_, _, stT l, rfl, fun _ hh => itTup hh, ⟨rfl, rfl⟩, hn, S'⟩
theorem IterW.range {r : Addr} {n : Nat} {t u v : Tok} (hl : H r = some (.raw (rangeO n t u v))) (hn : n ≤ 1000000) : IterW c (.ref r) H (fun _ => True) (upTo n) := by
 rintro _ rfl L R s E S
 obtain ⟨ob, g, _, _, rfl, _⟩ := S.hp _ _ hl
 refine wpAny_pyIter_range g (smallR hn) ?_
 obtain ⟨hn', S'⟩ := S.pushR (o := { cls := Value.type "range_iterator", data := Data.fields #[rawInt 0, rawInt (Builtin.Range.rangeSize 0 n 1), rawInt 1] }) rfl
 refine ⟨_, _, stR n, rfl, fun _ hh => itRange hh, ⟨Nat.zero_le _, ?_⟩, hn', S'⟩
 rw [rangeSize_nat0]
 show _ = ({ cls := _, dict := none, data := .fields #[rawInt 0, rawInt ((n : Int) - (0 : Nat)), rawInt 1], slots := #[] } : Obj)
 rw [show (n : Int) - ((0 : Nat) : Int) = n by omega]
noncomputable def AF.goes : AF → Prop
 | .next | .cont => True
 | _ => False
inductive ForB (c : Cx) (target : Expr) (body : List Stmt) (L : AL) (Q : AF → AL → AH → Prop) (a : AV) (H1 : AH) : Prop
 | mk' (src : AH → Prop) (xs : List AV) (hi : IterW c a H1 src xs) (Inv : Nat → AL → AH → Prop) (h0 : Inv 0 L H1) (hsrc : ∀ i L H, Inv i L H → src H)
  (hstep : ∀ i x L H, xs[i]? = some x → ∀ P, Shut (fun f L'' H'' => f.goes ∧ Inv (i + 1) L'' H'') P → Inv i L H → AsW c target x L H fun L' H' => SS c body L' H' P) (hfin : ∀ L H, Inv xs.length L H → Q .next L H)
inductive ForI (c : Cx) (it : Addr) (R : List (Addr × Obj)) (St : Nat → Obj → Prop) (Inv : Nat → AL → AH → Prop) (N n : Nat) (s : Shared) : Prop
 | mk' (i : Nat) (L : AL) (H : AH) (o : Obj) (en : n = N - i) (hi : i ≤ N) (st : St i o) (S : Sim c L H ((it, o) :: R) s) (hI : Inv i L H)
theorem ST.forP {target iter : Expr} {body : List Stmt} {pos : Pos} {Q : AF → AL → AH → Prop} (h : EW c iter L H (ForB c target body L Q))
  (hs : ∀ x, foldedSetIterable iter c.d.env x = pure x := by intro _; with_unfolding_all rfl) : ST c (.For target iter body [] pos) L H Q := fun R s S => by
 refine wpAny_For (h.run S fun v av H1 s1 hv S1 hb => ?_) hs
 obtain ⟨src, xs, hit, Inv, h0, hsrc, hstep, hfin⟩ := hb
 refine wpAny_mono (hit v hv _ _ _ nE S1) (fun r s2 hr => ?_) fun _ _ x => x.elim
 obtain ⟨it, o, St, e, spec', st, hn, S2⟩ := hr
 subst e
 have spec := spec' c S.ok.handled
 refine codeAny_forLoop_any (ForI c it R St Inv xs.length) ?_ xs.length ⟨0, _, _, o, rfl, Nat.zero_le _, st, S2, h0⟩
 rintro n s ⟨i, L, H, o, rfl, hi, st, S, hI⟩
 cases hx : xs[i]? with
 | none =>
  refine wpAny_mono (spec.done (notedBy (model prg c.d.w) c.d.A c.d.env fun e s' => nE e s') (hsrc _ _ _ hI) hx st hn S) (fun r s' hr => ?_) fun _ _ x => wpAny_mono x (fun _ _ y => y.elim) fun _ _ y => y.elim
  obtain ⟨e, S'⟩ := hr
  subst e
  have : i = xs.length := end_idx hx hi
  subst this
  exact wpAny_execs_nil ⟨.next, _, _, rfl, S', hfin _ _ hI⟩
 | some a =>
  have hlt : i < xs.length := (List.getElem?_eq_some_iff.mp hx).1
  refine wpAny_mono (spec.item (notedBy (model prg c.d.w) c.d.A c.d.env fun e s' => nE e s') (hsrc _ _ _ hI) hx st hn S) (fun r s' hr => ?_) fun _ _ x => wpAny_mono x (fun _ _ y => y.elim) fun _ _ y => y.elim
  obtain ⟨v, o', e, hv, st', S'⟩ := hr
  subst e
  refine spec.go st' S' ?_
  refine (hstep _ _ _ _ hx _ ⟨id⟩ hI v hv).run S' fun L' H' s2 S2 q => q.run S2 fun f af L'' H'' s3 hf S3 q3 => ?_
  have go := q3.1
  have hi' := q3.2
  cases af with
  | next => cases hf; exact ⟨xs.length - (i + 1), sub1_lt hlt, i + 1, _, _, o', rfl, hlt, st', S3, hi'⟩
  | cont => cases hf; exact ⟨xs.length - (i + 1), sub1_lt hlt, i + 1, _, _, o', rfl, hlt, st', S3, hi'⟩
  | brk => exact go.elim
  | ret a => exact go.elim
structure LoopP (I : AL → AH → Prop) (Q P : AF → AL → AH → Prop) : Prop where
 next : ∀ {L H}, I L H → P .next L H
 cont : ∀ {L H}, I L H → P .cont L H
 brk : ∀ {L H}, Q .next L H → P .brk L H
 ret : ∀ {a L H}, Q (.ret a) L H → P (.ret a) L H
theorem ST.whileIn {test : Expr} {body : List Stmt} {pos : Pos} {Q : AF → AL → AH → Prop} (Inv : Nat → AL → AH → Prop) (n : Nat) (h0 : Inv n L H)
  (h : ∀ n L H P, LoopP (fun L'' H'' => ∃ m, m < n ∧ Inv m L'' H'') Q P → Inv n L H → CB c test L H fun b H' => if b = true then SS c body L H' P else Q .next L H') :
  ST c (.While test body [] pos) L H Q := fun R s S => by
 refine wpAny_While (codeAny_whileLoop (fun n s => ∃ L H, Sim c L H R s ∧ Inv n L H) ?_ n ⟨L, H, S, h0⟩)
 rintro n s ⟨L, H, S, hI⟩
 refine (h n L H (fun f L'' H'' => match f with | .next => ∃ m, m < n ∧ Inv m L'' H'' | .cont => ∃ m, m < n ∧ Inv m L'' H'' | .brk => Q .next L'' H'' | .ret a => Q (.ret a) L'' H'') ⟨id, id, id, id⟩ hI).run S fun b H' s' S' q => ?_
 cases b with
 | true =>
  rw [if_pos rfl] at q ⊢
  refine q.run S' fun f af L'' H'' s3 hf S3 q3 => ?_
  cases af with
  | next => cases hf; obtain ⟨m, hm, q⟩ := q3; exact ⟨m, hm, _, _, S3, q⟩
  | cont => cases hf; obtain ⟨m, hm, q⟩ := q3; exact ⟨m, hm, _, _, S3, q⟩
  | brk => cases hf; exact ⟨.next, _, _, rfl, S3, q3⟩
  | ret a => obtain ⟨w, rfl, hw⟩ := hf; exact ⟨.ret a, _, _, ⟨w, rfl, hw⟩, S3, q3⟩
 | false =>
  rw [if_neg (by decide)] at q ⊢
  exact wpAny_execs_nil ⟨.next, _, _, rfl, S', q⟩
end
end
section
noncomputable abbrev W := List Nat
noncomputable def S (l : W) : Str := ⟨l.toArray⟩
noncomputable def lit (s : String) : W := cpsOfBytes 0 0 s.toByteArray.data.toList
theorem S_lit (s : String) : Str.ofString s = S (lit s) := rfl
theorem S_append (a b : W) : S a ++ S b = S (a ++ b) := congrArg Str.mk (by show a.toArray ++ b.toArray = _; simp)
theorem S_length (a : W) : (S a).length = a.length := by show a.toArray.size = _; simp
theorem S_inj {a b : W} (h : S a = S b) : a = b := by injection h with h; simpa using h
theorem S_beq (a b : W) : (S a == S b) = (a == b) := by
 by_cases h : a = b
 ·subst h; simp
 ·have : S a ≠ S b := fun q => h (S_inj q)
  rw [beq_eq_false_iff_ne.mpr h, beq_eq_false_iff_ne.mpr this]
noncomputable def RetP (c : Cx) (L : AL) (R : List (Addr × Obj)) (Q : AV → AH → Prop) : Result → Shared → Prop
 | .ok (.ret v), s' => TQ c L R Q v s'
 | _, _ => False
noncomputable def CodeW (c : Cx) (f : Value) (as : List AV) (kn : List Str) (kas : List AV) (L : AL) (H : AH) (Q : AV → AH → Prop) : Prop :=
 ∀ vs ws, VRels as vs → VRels kas ws → ∀ R s, Sim c L H R s → codeAny (model prg c.d.w) c.d.A (.call f ⟨vs, kn.zip ws⟩) (RetP c L R Q) s
noncomputable def CallKW (c : Cx) (f : Value) (as : List AV) (kn : List Str) (kas : List AV) (L : AL) (H : AH) (Q : AV → AH → Prop) : Prop :=
 ∀ vs ws, VRels as vs → VRels kas ws → TW c (call f vs (kn.zip ws)) L H Q
noncomputable abbrev KP (c : Cx) : Frag := Kf c.d.w.params
noncomputable def bindA (ns : List Str) (bas : List AV) : AL := fun y => (ns.zip bas).reverse.lookup y
noncomputable def AF.val : AF → AV
 | .ret a => a
 | _ => .none
section
variable {c : Cx} {L : AL} {H : AH} {R : List (Addr × Obj)} {s : Shared} {Q : AV → AH → Prop}
theorem RetP.to {w : World} {A : Around} {cd : Code} {P : Result → Shared → Prop} (h : codeAny (model prg w) A cd (RetP c L R Q) s) (k : ∀ v s', TQ c L R Q v s' → P (.ok (.ret v)) s') : codeAny (model prg w) A cd P s := codeAny_mono h fun r s' q => by
 cases r with
 | error e => exact q.elim
 | ok f => cases f with
  | ret v => exact k v s' q
  | _ => exact q.elim
theorem CodeW.toKW {f : Value} {as kas : List AV} {kn : List Str} (h : CodeW c f as kn kas L H Q) : CallKW c f as kn kas L H Q := fun vs ws hv hw R s S => wpAny_call (RetP.to (h vs ws hv hw R s S) fun _ _ q => q)
theorem CallKW.toCall {f : Value} {as : List AV} (h : CallKW c f as [] [] L H Q) : CallW c f as L H Q := fun vs hv R s S => h vs [] hv .nil R s S
theorem CodeW.mono {f : Value} {as kas : List AV} {kn : List Str} {Q' : AV → AH → Prop} (h : CodeW c f as kn kas L H Q) (k : ∀ a H', Q a H' → Q' a H') : CodeW c f as kn kas L H Q' := fun vs ws hv hw R s S => RetP.to (h vs ws hv hw R s S) fun v s' q => by
 obtain ⟨a, H', h1, h2, h3⟩ := q
 exact ⟨a, H', h1, h2, k _ _ h3⟩
theorem CallKW.mono {f : Value} {as kas : List AV} {kn : List Str} {Q' : AV → AH → Prop} (h : CallKW c f as kn kas L H Q) (k : ∀ a H', Q a H' → Q' a H') : CallKW c f as kn kas L H Q' := fun vs ws hv hw => (h vs ws hv hw).mono k
theorem CallW.mono {f : Value} {as : List AV} {Q' : AV → AH → Prop} (h : CallW c f as L H Q) (k : ∀ a H', Q a H' → Q' a H') : CallW c f as L H Q' := fun vs hv => (h vs hv).mono k
theorem bindA_rel {ns : List Str} {bas : List AV} {bv : List Value} (hb : VRels bas bv) (y : Str) : (bindA ns bas y = none ∧ (ns.zip bv).reverse.lookup y = none) ∨ ∃ a v, bindA ns bas y = some a ∧ (ns.zip bv).reverse.lookup y = some v ∧ VRel a v := by
 induction ns generalizing bas bv with
 | nil => exact .inl ⟨by cases bas <;> rfl, by cases bv <;> rfl⟩
 | cons n ns IH =>
  obtain _ | ⟨h, t⟩ := hb
  ·exact .inl ⟨rfl, rfl⟩
  rename_i a v as vs
  have e1 : ∀ {β : Type} (l : List β) (b : β), ((n :: ns).zip (b :: l)).reverse.lookup y = ((ns.zip l).reverse.lookup y).or (if y == n then some b else none) := fun l b => by
   rw [List.zip_cons_cons, List.reverse_cons, List.lookup_append]
   congr 1
   rw [List.lookup_cons]
   cases q : y == n <;> simp
  have ih := IH t
  unfold bindA at ih ⊢
  rw [e1, e1]
  rcases ih with ⟨h1, h2⟩ | ⟨a', v', h1, h2, r⟩
  ·rw [h1, h2]
   cases q : y == n with
   | false => exact .inl ⟨rfl, rfl⟩
   | true => exact .inr ⟨a, v, rfl, rfl, h⟩
  ·rw [h1, h2]
   exact .inr ⟨a', v', rfl, rfl, r⟩
inductive GroundOf (c : Cx) (f : Addr) (L : AL) (H : AH) (R : List (Addr × Obj)) (s : Shared) : Prop
 | mk' (m : Str → Option Value) (news Rx : List (Addr × Obj)) (F : Fr c.d.h₀ f s.heap m) (N : News c.d.h₀ f s.heap (news ++ Rx)) (hin : ∀ a ao, H a = some ao → InN news a ao) (hsep : ∀ p ∈ Rx, H p.1 = none)
  (back : ∀ (s' : Shared) (H' : AH) (news' : List (Addr × Obj)), Fr c.d.h₀ f s'.heap m → News c.d.h₀ f s'.heap (news' ++ Rx) → (∀ a ao, H' a = some ao → InN news' a ao) → (∃ dom : List Addr, ∀ a, H' a ≠ none → a ∈ dom) → (∀ p ∈ Rx, H' p.1 = none) → s'.gens = #[] → s'.os = s.os →
   Sim c L H' R s')
theorem Sim.ground (S : Sim c L H R s) : GroundOf c c.d.F L H R s := by
 obtain ⟨news, N, hin, hout⟩ := S.news
 obtain ⟨m, F, hm⟩ := S.fr
 by_cases hc : c.d.comp = true
 ·have fo := S.frm hc
  obtain ⟨oL, es, ep, hoL, hd, hk, hf⟩ := F.ns
  have F' : Fr c.d.h₀ c.d.F s.heap c.d.fm := ⟨fo.ns, F.keep, S.ok.hF hc⟩
  have hL0 : c.d.h₀.get? c.d.L = none := by
   cases q : c.d.h₀.get? c.d.L with
   | none => rfl
   | some x => exact absurd (Nat.lt_of_lt_of_le (Heap.lt_size q) F.above) (Nat.lt_irrefl _)
  have hLH : H c.d.L = none := by
   cases q : H c.d.L with
   | none => rfl
   | some x => obtain ⟨_, _, g, _⟩ := S.hp _ _ q; exact absurd rfl g
  refine ⟨_, news, (c.d.L, oL) :: R, F', fun p hp => ?_, hin, fun p hp => ?_, fun s' H' news' F3 N3 hin' hfin hsep hg hos => ?_⟩
  ·rcases List.mem_append.mp hp with hp | hp
   ·have := N _ (List.mem_append_left _ hp)
    obtain ⟨ao, ha, _⟩ := hout p hp
    exact ⟨this.1, fun q => (by have := fo.nh; rw [← q, ha] at this; cases this), this.2.2⟩
   ·rcases List.mem_cons.mp hp with rfl | hp
    ·exact ⟨hoL, fun q => fo.nl q.symm, hL0⟩
    ·have := S.nw _ hp
     exact ⟨this.1, fo.nr _ hp, this.2.2⟩
  ·rcases List.mem_cons.mp hp with rfl | hp
   ·exact hLH
   ·exact S.sep _ hp
  ·have hL3 := (N3 _ (List.mem_append_right _ (.head _))).1
   have hsL : H' c.d.L = none := hsep _ (.head _)
   refine ⟨S.ok, ⟨m, ⟨⟨oL, es, ep, hL3, hd, hk, hf⟩, F3.keep, F.above⟩, hm⟩, fun p hp => ?_, fun a ao e => ?_, hfin, fun p hp => hsep _ (.tail _ hp), hg, hos.trans S.os, fun _ => ⟨F3.ns, fo.nl, ?_, fo.nr⟩⟩
   ·have := N3 _ (List.mem_append_right _ (.tail _ hp))
    exact ⟨this.1, (S.nw _ hp).2.1, this.2.2⟩
   ·obtain ⟨o, ho, hr⟩ := hin' a ao e
    have := N3 _ (List.mem_append_left _ ho)
    exact ⟨o, this.1, fun q => (by rw [q, hsL] at e; cases e), this.2.2, hr⟩
   ·cases q : H' c.d.F with
    | none => rfl
    | some x => obtain ⟨o, ho, hr⟩ := hin' _ _ q; exact absurd rfl (N3 _ (List.mem_append_left _ ho)).2.1
 ·have he := S.ok.same (by simpa using hc)
  have eF : c.d.F = c.d.L := by show c.d.fenv.locals = c.d.env.locals; rw [he]
  rw [eF]
  refine ⟨m, news, R, F, N, hin, S.sep, fun s' H' news' F3 N3 hin' hfin hsep hg hos => ⟨S.ok, ⟨m, F3, hm⟩, fun p hp => N3 p (List.mem_append_right _ hp), fun a ao e => ?_, hfin, hsep, hg, hos.trans S.os, fun q => absurd q hc⟩⟩
  obtain ⟨o, ho, hr⟩ := hin' a ao e
  have := N3 _ (List.mem_append_left _ ho)
  exact ⟨o, this.1, this.2.1, this.2.2, hr⟩
theorem CodeW.enter {st : Stmt} {fa cda : Addr} {qual : Str} {dV pm : Value} {as kas : List AV} {kn ns : List Str} {bas : List AV}
  (ho : (KP c).lookup fa = some (fnO st qual dV pm (.ref cda))) (hcd : codeIn (KP c) (.ref cda) qual = true) (hroom : 1 ≤ c.d.room)
  (hb : ∀ vs ws, VRels as vs → VRels kas ws → ∃ bv, VRels bas bv ∧ ∀ s : Shared, (KP c).In s.heap → BindsTo s (fnOf (fName st) qual (fArgs st) (fBody st) (fScope st) dV .none .none pm none (.ref cda) .none) ⟨vs, kn.zip ws⟩ (ns.zip bv))
  (hloc : (ns.all fun x => (fScope st).names.lookup x == some .local) = true) (hcell : ((fScope st).names.all fun x => x.2 != .cell) = true)
  (hco : (fScope st).isCoroutine = false) (hgen : (fScope st).isGenerator = false) (hk : (fScope st).kind = .function)
  (k : ∀ c' : Cx, c'.ns = (fScope st).names → c'.cl = [] → c'.d.room + 1 = c.d.room → c'.d.w = c.d.w → SS c' (fBody st) (bindA ns bas) H fun f _ H' => Q f.val H') : CodeW c (.ref fa) as kn kas L H Q := by
 intro vs ws hv hw R s S
 obtain ⟨bv, hbv, hbind⟩ := hb vs ws hv hw
 obtain ⟨m, news, Rx, F, N, hin, hsep, back⟩ := S.ground
 refine code_def S.ok.below F S.ok.kin N S.ok.top S.ok.frames S.ok.frame S.ok.fkind ho hcd (room_lt S.ok.room hroom) (hbind s S.kin) (fun y hy => ?_) (fun g L' h₁ FG F' N' B' KG TG => ?_) hco hgen hk (fun x hx => ?_)
 ·obtain ⟨x, v⟩ := y
  have := List.all_eq_true.mp hloc x (List.of_mem_zip hy).1
  simpa using this
 ·let d' : Dy := { w := c.d.w, A := c.d.A.deeper (envOf qual (fScope st) L' fa (.ref cda)), A₀ := c.d.A, base := c.d.base, h₀ := g, outer := c.d.fenv :: c.d.outer, env := envOf qual (fScope st) L' fa (.ref cda), mg := c.d.mg, mb := c.d.mb, mean := c.d.mean, os := c.d.os, room := c.d.room - 1, comp := false, fenv := envOf qual (fScope st) L' fa (.ref cda), fm := fun _ => none }
  let c' : Cx := ⟨d', (fScope st).names, []⟩
  have ok' : c'.d.Ok c'.ns c'.cl := ⟨B', KG, TG, Around.frames_deeper S.ok.frames, S.ok.handled, rfl, hk, fun _ => rfl, (fun e => nomatch e), hk, rfl, rfl, rfl, rfl, room_deep S.ok.room hroom, units_deep S.ok.units hroom⟩
  have S' : Sim c' (bindA ns bas) H Rx { s with heap := h₁, toks := s.toks + (ns.zip bv).length } := by
   refine ⟨ok', ⟨_, F', fun x av e => ?_⟩, fun p hp => N' p (List.mem_append_right _ hp), fun a ao e => ?_, S.fin, hsep, S.gens, S.os, (fun e => nomatch e)⟩
   ·rcases bindA_rel (ns := ns) hbv x with ⟨e1, _⟩ | ⟨a, v, e1, e2, r⟩
    ·rw [e1] at e; cases e
    ·rw [e1] at e; cases e; exact ⟨v, e2, r⟩
   ·obtain ⟨o, ho, hr⟩ := hin a ao e
    have := N' _ (List.mem_append_left _ ho)
    exact ⟨o, this.1, this.2.1, this.2.2, hr⟩
  have := (k c' rfl rfl (Nat.sub_add_cancel hroom) rfl).run (E := fun e s' => wpAny (model prg c.d.w) d'.A (leaving d'.env e) (fun _ s'' => RetP c L R Q (.error e) s'') (fun e' s'' => RetP c L R Q (.error e') s'') s') S'
   (P := fun fl s' => LeaveK c.d.h₀ c.d.F m g (RetP c L R Q) (match fl with | .ret v => v | _ => .none) s') fun f af L'' H'' s' hf S2 q => ?_
  ·exact this
  ·obtain ⟨m2, F2, _⟩ := S2.fr
   obtain ⟨news2, N2, hin2, _⟩ := S2.news
   have hv : VRel af.val (match (motive := Flow → Value) f with | .ret v => v | _ => .none) := by
    cases af with
    | next => cases hf; rfl
    | brk => cases hf; rfl
    | cont => cases hf; rfl
    | ret a => obtain ⟨v, rfl, hv⟩ := hf; exact hv
   exact leaveK_ F2 N2 fun F3 N3 => ⟨_, H'', hv, back s' H'' news2 F3 N3 hin2 S2.fin S2.sep S2.gens (S2.os.trans S.os.symm), q⟩
 ·have := List.all_eq_true.mp hcell x hx
  simpa using this
structure FinP (Q : AV → AH → Prop) (P : AF → AL → AH → Prop) : Prop where
 ret : ∀ {a L H}, Q a H → P (.ret a) L H
 next : ∀ {L H}, Q .none H → P .next L H
theorem FinP.of (Q : AV → AH → Prop) : FinP Q fun f _ H => Q f.val H := ⟨id, id⟩
theorem CodeW.enterP {st : Stmt} {fa cda : Addr} {qual : Str} {dV pm : Value} {as kas : List AV} {kn ns : List Str} {bas : List AV}
  (ho : (KP c).lookup fa = some (fnO st qual dV pm (.ref cda))) (hcd : codeIn (KP c) (.ref cda) qual = true) (hroom : 1 ≤ c.d.room)
  (hb : ∀ vs ws, VRels as vs → VRels kas ws → ∃ bv, VRels bas bv ∧ ∀ s : Shared, (KP c).In s.heap → BindsTo s (fnOf (fName st) qual (fArgs st) (fBody st) (fScope st) dV .none .none pm none (.ref cda) .none) ⟨vs, kn.zip ws⟩ (ns.zip bv))
  (hloc : (ns.all fun x => (fScope st).names.lookup x == some .local) = true) (hcell : ((fScope st).names.all fun x => x.2 != .cell) = true)
  (hco : (fScope st).isCoroutine = false) (hgen : (fScope st).isGenerator = false) (hk : (fScope st).kind = .function)
  (k : ∀ d : Dy, d.room + 1 = c.d.room → d.w = c.d.w → ∀ P, FinP Q P → SS ⟨d, (fScope st).names, []⟩ (fBody st) (bindA ns bas) H P) : CodeW c (.ref fa) as kn kas L H Q :=
 CodeW.enter ho hcd hroom hb hloc hcell hco hgen hk fun c' e1 e2 e3 e4 => by
  obtain ⟨d, n, l⟩ := c'
  subst e1 e2
  exact k d e3 e4 _ (.of Q)
-- calls
noncomputable def KS (c : Cx) (kws : List Keyword) (pos : Pos) (L : AL) (H : AH) (Q : List AV → AH → Prop) : Prop := LW c (evalAll ((backToKw pos (keywordEach kws c.d.env)).map (·.2))) L H Q
theorem EW.callKW {x : Str} {np pos : Pos} {e : Expr} {es : List Expr} {kws : List Keyword}
  (h : EW c (.Name x np) L H fun f H1 => ∃ fa, f = .ref fa ∧ keepIn (KP c) (.ref fa) = true ∧ ES c (e :: es) pos L H1 fun as H2 => KS c kws pos L H2 fun kas H3 => CallKW c (.ref fa) as ((backToKw pos (keywordEach kws c.d.env)).filterMap (·.1)) kas L H3 Q)
  (h1 : ((backToKw pos (keywordEach kws c.d.env)).all fun x => x.1.isSome) = true := by with_unfolding_all rfl)
  (h2 : (((backTo pos (starEach (e :: es) c.d.env)).any fun x => x.1) || (backToKw pos (keywordEach kws c.d.env)).any fun x => x.1.isNone) = false := by with_unfolding_all rfl)
  (h3 : starEach (e :: es) c.d.env = (false, eval e c.d.env) :: starEach es c.d.env := by with_unfolding_all rfl) : EW c (.Call (.Name x np) (e :: es) kws pos) L H Q := fun R s S =>
 wpAny_Call_ofName (h.run S fun f af H1 s1 hf S1 zz => by
  obtain ⟨fa, e, hk, q⟩ := zz
  subst e; cases hf
  exact callWith_KW S1.ok.kin hk h1 (q.run S1 fun vs as H2 s2 hv S2 q2 => q2.run S2 fun ws kas H3 s3 hw S3 q3 => ⟨S3.kin, q3 vs ws hv hw R _ S3⟩) h2 h3)
theorem EW.call {x : Str} {np pos : Pos} {e : Expr} {es : List Expr}
  (h : EW c (.Name x np) L H fun f H1 => ∃ fa, f = .ref fa ∧ keepIn (KP c) (.ref fa) = true ∧ ES c (e :: es) pos L H1 fun as H2 => CallW c (.ref fa) as L H2 Q)
  (h2 : (((backTo pos (starEach (e :: es) c.d.env)).any fun x => x.1) || (backToKw pos (keywordEach [] c.d.env)).any fun x => x.1.isNone) = false := by with_unfolding_all rfl)
  (h3 : starEach (e :: es) c.d.env = (false, eval e c.d.env) :: starEach es c.d.env := by with_unfolding_all rfl) : EW c (.Call (.Name x np) (e :: es) [] pos) L H Q := fun R s S =>
 wpAny_Call_ofName (h.run S fun f af H1 s1 hf S1 zz => by
  obtain ⟨fa, e, hk, q⟩ := zz
  subst e; cases hf
  exact callWith_KW S1.ok.kin hk rfl (q.run S1 fun vs as H2 s2 hv S2 q2 => wpAny_evalAll_nil ⟨S2.kin, q2 vs hv R _ S2⟩) h2 h3)
theorem EW.call0 {x : Str} {np pos : Pos}
  (h : EW c (.Name x np) L H fun f H1 => ∃ fa, f = .ref fa ∧ keepIn (KP c) (.ref fa) = true ∧ CallW c (.ref fa) [] L H1 Q) : EW c (.Call (.Name x np) [] [] pos) L H Q := fun R s S =>
 wpAny_Call_ofName (h.run S fun f af H1 s1 hf S1 zz => by
  obtain ⟨fa, e, hk, q⟩ := zz
  subst e; cases hf
  exact callWith_KW0 S1.ok.kin hk rfl (wpAny_evalAll_nil ⟨S1.kin, q [] .nil R _ S1⟩) rfl)
theorem EW.callB {x : Str} {np pos : Pos} {e : Expr} {es : List Expr}
  (h : EW c (.Name x np) L H fun f H1 => ∃ id, f = .blt id ∧ ES c (e :: es) pos L H1 fun as H2 => CallW c (.builtin id) as L H2 Q)
  (h2 : ((backTo pos (starEach (e :: es) c.d.env)).any fun x => x.1) = false := by with_unfolding_all rfl)
  (h3 : backTo pos (starEach (e :: es) c.d.env) = (false, (backTo pos [(false, eval e c.d.env)]).head!.2) :: backTo pos (starEach es c.d.env) := by with_unfolding_all rfl) : EW c (.Call (.Name x np) (e :: es) [] pos) L H Q := fun R s S =>
 wpAny_Call_ofName (h.run S fun f af H1 s1 hf S1 zz => by
  obtain ⟨id, e, q⟩ := zz
  subst e; cases hf
  refine callWith_builtin h2 ?_
  rw [h3]
  refine evalArgs_plain ?_
  rw [← h3]
  exact q.run S1 fun vs as H2 s2 hv S2 q2 => q2 vs hv R _ S2)
theorem EW.callT {x : Str} {np pos : Pos} {e : Expr} {es : List Expr}
  (h : EW c (.Name x np) L H fun f H1 => ∃ n, f = .typ n ∧ ES c (e :: es) pos L H1 fun as H2 => CallW c (.type n) as L H2 Q)
  (h2 : ((backTo pos (starEach (e :: es) c.d.env)).any fun x => x.1) = false := by with_unfolding_all rfl)
  (h3 : backTo pos (starEach (e :: es) c.d.env) = (false, (backTo pos [(false, eval e c.d.env)]).head!.2) :: backTo pos (starEach es c.d.env) := by with_unfolding_all rfl) : EW c (.Call (.Name x np) (e :: es) [] pos) L H Q := fun R s S =>
 wpAny_Call_ofName (h.run S fun f af H1 s1 hf S1 zz => by
  obtain ⟨id, e, q⟩ := zz
  subst e; cases hf
  refine PyProof.Rows.callWith_type h2 ?_
  rw [h3]
  refine evalArgs_plain ?_
  rw [← h3]
  exact q.run S1 fun vs as H2 s2 hv S2 q2 => q2 vs hv R _ S2)
theorem EW.cS {x : String} {k : Nat} {pos : Pos} (h : Q (.str (S (lit x))) H) : EW c (.Constant (.str (Str.ofString x)) k pos) L H Q := EW.cStr h
theorem OpW.addSS {a b : W} (hz : a.length + b.length ≤ 1000000) (h : Q (.str (S (a ++ b))) H) : OpW c .Add (.str (S a)) (.str (S b)) L H Q :=
 OpW.addS (by rw [S_length, S_length]; exact Nat.le_trans hz (by decide)) (by rw [S_append]; exact h)
theorem CmpW.eqSS {a b : W} {P : Bool → AH → Prop} (h : P (a == b) H) : CmpW c .Eq (.str (S a)) (.str (S b)) L H P := CmpW.eqS (by rw [S_beq]; exact h)
theorem CmpW.neSS {a b : W} {P : Bool → AH → Prop} (h : P (a != b) H) : CmpW c .NotEq (.str (S a)) (.str (S b)) L H P := CmpW.neS (by unfold bne; rw [S_beq]; exact h)
theorem CallW.chr {i : Int} (h0 : 0 ≤ i) (h1 : i ≤ 1114111) (h : Q (.str (S [i.toNat])) H) : CallW c (.builtin "chr") [.int i] L H Q := by
 rintro _ (_ | ⟨⟨t, rfl⟩, _ | _⟩) R s S'
 exact P.chr_of_int (by simp; omega) ⟨.str (S [i.toNat]), H, ⟨_, rfl⟩, S'.toks, h⟩
theorem CallW.lenS {x : W} (hz : x.length ≤ 1000000000) (h : Q (.int x.length) H) : CallW c (.builtin "len") [.str (S x)] L H Q := by
 rintro _ (_ | ⟨⟨t, rfl⟩, _ | _⟩) R s S'
 refine SBL.len (by rw [S_length]; omega) ⟨.int (S x).length, H, ⟨_, rfl⟩, S'.toks, ?_⟩
 rw [S_length]; exact h
theorem CallW.lenL {a : Addr} {xs : List AV} (ha : H a = some (.list xs)) (hz : xs.length ≤ 1000000000) (h : Q (.int xs.length) H) : CallW c (.builtin "len") [.ref a] L H Q := by
 rintro _ (_ | ⟨rfl, _ | _⟩) R s S'
 obtain ⟨vs, hv, hl⟩ := isL S' ha
 have e := hv.length
 exact call_len_list hl (by rw [List.size_toArray]; omega) ⟨.int vs.toArray.size, H, ⟨_, rfl⟩, S'.toks, by rw [List.size_toArray, ← e]; exact h⟩
end
end
section
theorem n_law_word (P : Params) : GIs P (Str.ofString "_law_word") (.ref 836) := .inl (by kernel_rfl)
theorem n_law_rows (P : Params) : GIs P (Str.ofString "_law_rows") (.ref 843) := .inl (by kernel_rfl)
theorem n_law_records (P : Params) : GIs P (Str.ofString "_law_records") (.ref 848) := .inl (by kernel_rfl)
theorem n_law_held (P : Params) : GIs P (Str.ofString "_law_held") (.ref 855) := .inl (by kernel_rfl)
theorem n_law_lines (P : Params) : GIs P (Str.ofString "_law_lines") (.ref 862) := .inl (by kernel_rfl)
theorem n_law_pairs (P : Params) : GIs P (Str.ofString "_law_pairs") (.ref 869) := .inl (by kernel_rfl)
theorem n_law_pages (P : Params) : GIs P (Str.ofString "_law_pages") (.ref 874) := .inl (by kernel_rfl)
theorem n_law_written (P : Params) : GIs P (Str.ofString "_law_written") (.ref 879) := .inl (by kernel_rfl)
theorem nquote (P : Params) : GIs P (Str.ofString "quote") (.ref 829) := .inl (by kernel_rfl)
theorem nsplit (P : Params) : GIs P (Str.ofString "split") (.ref 821) := .inl (by kernel_rfl)
theorem nshlex (P : Params) : GIs P (Str.ofString "shlex") (.ref 809) := .inl (by kernel_rfl)
theorem nStringIO (P : Params) : GIs P (Str.ofString "StringIO") (.ref 674) := .inl (by kernel_rfl)
theorem nBytesIO (P : Params) : GIs P (Str.ofString "BytesIO") (.ref 427) := .inl (by kernel_rfl)
theorem nEntry (P : Params) : GIs P (Str.ofString "Entry") (.ref 82) := .inl (by kernel_rfl)
theorem nmerge_entries (P : Params) : GIs P (Str.ofString "merge_entries") (.ref 93) := .inl (by kernel_rfl)
theorem nheappush (P : Params) : GIs P (Str.ofString "heappush") (.ref 100) := .inl (by kernel_rfl)
theorem nheappop (P : Params) : GIs P (Str.ofString "heappop") (.ref 107) := .inl (by kernel_rfl)
theorem n_siftdown (P : Params) : GIs P (Str.ofString "_siftdown") (.ref 114) := .inl (by kernel_rfl)
theorem n_siftup (P : Params) : GIs P (Str.ofString "_siftup") (.ref 121) := .inl (by kernel_rfl)
theorem n_index (P : Params) : GIs P (Str.ofString "_index") (.ref 140) := .inl (by kernel_rfl)
theorem n_find_unsafe (P : Params) : GIs P (Str.ofString "_find_unsafe") (.ref 822) := .inl (by kernel_rfl)
theorem kp_836 (P : Params) : keepIn (Kf P) (.ref 836) = true := rfl
theorem kp_843 (P : Params) : keepIn (Kf P) (.ref 843) = true := rfl
theorem kp_848 (P : Params) : keepIn (Kf P) (.ref 848) = true := rfl
theorem kp_855 (P : Params) : keepIn (Kf P) (.ref 855) = true := rfl
theorem kp_862 (P : Params) : keepIn (Kf P) (.ref 862) = true := rfl
theorem kp_869 (P : Params) : keepIn (Kf P) (.ref 869) = true := rfl
theorem kp_874 (P : Params) : keepIn (Kf P) (.ref 874) = true := rfl
theorem kp_879 (P : Params) : keepIn (Kf P) (.ref 879) = true := rfl
theorem kp_829 (P : Params) : keepIn (Kf P) (.ref 829) = true := rfl
theorem kp_821 (P : Params) : keepIn (Kf P) (.ref 821) = true := rfl
theorem kp_809 (P : Params) : keepIn (Kf P) (.ref 809) = true := rfl
theorem kp_674 (P : Params) : keepIn (Kf P) (.ref 674) = true := rfl
theorem kp_82 (P : Params) : keepIn (Kf P) (.ref 82) = true := rfl
theorem kp_93 (P : Params) : keepIn (Kf P) (.ref 93) = true := rfl
theorem kp_100 (P : Params) : keepIn (Kf P) (.ref 100) = true := rfl
theorem kp_107 (P : Params) : keepIn (Kf P) (.ref 107) = true := rfl
theorem kp_114 (P : Params) : keepIn (Kf P) (.ref 114) = true := rfl
theorem kp_121 (P : Params) : keepIn (Kf P) (.ref 121) = true := rfl
theorem kp_140 (P : Params) : keepIn (Kf P) (.ref 140) = true := rfl
theorem n_deque (P : Params) : GIs P (Str.ofString "deque") (.type "collections.deque") := .inl (by kernel_rfl)
theorem b_chr (P : Params) : GIs P (Str.ofString "chr") (.builtin "chr") := .inr ⟨by kernel_rfl, by decide +kernel, by decide⟩
theorem b_len (P : Params) : GIs P (Str.ofString "len") (.builtin "len") := .inr ⟨by kernel_rfl, by decide +kernel, by decide⟩
theorem b_isinstance (P : Params) : GIs P (Str.ofString "isinstance") (.builtin "isinstance") := .inr ⟨by kernel_rfl, by decide +kernel, by decide⟩
theorem b_range (P : Params) : GIs P (Str.ofString "range") (.type "range") := .inr ⟨by kernel_rfl, by decide +kernel, by decide⟩
theorem b_str (P : Params) : GIs P (Str.ofString "str") (.type "str") := .inr ⟨by kernel_rfl, by decide +kernel, by decide⟩
theorem b_list (P : Params) : GIs P (Str.ofString "list") (.type "list") := .inr ⟨by kernel_rfl, by decide +kernel, by decide⟩
theorem b_type (P : Params) : GIs P (Str.ofString "type") (.type "type") := .inr ⟨by kernel_rfl, by decide +kernel, by decide⟩
theorem b_int (P : Params) : GIs P (Str.ofString "int") (.type "int") := .inr ⟨by kernel_rfl, by decide +kernel, by decide⟩
theorem b_map (P : Params) : GIs P (Str.ofString "map") (.type "map") := .inr ⟨by kernel_rfl, by decide +kernel, by decide⟩
theorem b_filter (P : Params) : GIs P (Str.ofString "filter") (.type "filter") := .inr ⟨by kernel_rfl, by decide +kernel, by decide⟩
theorem b_set (P : Params) : GIs P (Str.ofString "set") (.type "set") := .inr ⟨by kernel_rfl, by decide +kernel, by decide⟩
theorem b_object (P : Params) : GIs P (Str.ofString "object") (.type "object") := .inr ⟨by kernel_rfl, by decide +kernel, by decide⟩
section
variable {c : Cx} {L : AL} {H : AH} {Q : AV → AH → Prop}
theorem EW.gR {x : Str} {pos : Pos} {a : Addr} (hk : c.ns.lookup x = some .globalImplicit) (hg : GIs c.d.w.params x (.ref a)) (h : Q (.ref a) H) (hd : (x == ("__debug__" : Str)) = false := by decide) : EW c (.Name x pos) L H Q := EW.glob (av := .ref a) hk hg rfl h hd
theorem EW.gB {x : Str} {pos : Pos} {a : String} (hk : c.ns.lookup x = some .globalImplicit) (hg : GIs c.d.w.params x (.builtin a)) (h : Q (.blt a) H) (hd : (x == ("__debug__" : Str)) = false := by decide) : EW c (.Name x pos) L H Q := EW.glob (av := .blt a) hk hg rfl h hd
theorem EW.gT {x : Str} {pos : Pos} {a : String} (hk : c.ns.lookup x = some .globalImplicit) (hg : GIs c.d.w.params x (.type a)) (h : Q (.typ a) H) (hd : (x == ("__debug__" : Str)) = false := by decide) : EW c (.Name x pos) L H Q := EW.glob (av := .typ a) hk hg rfl h hd
end
end
section
open PySem PySem.W PySem.Calls PyProof.Rows PySem.SeqAt
section
variable {c : Cx} {L : AL} {H : AH} {R : List (Addr × Obj)} {s : Shared} {Q : AV → AH → Prop} {P : Bool → AH → Prop}
theorem Sim.unitsLt (S : Sim c L H R s) : c.d.A.units < cLine := by
 exact units_lt (k := 0) S.ok.units (by decide)
-- methods of the built-in types
noncomputable def TyIs (T : String) (a : AV) (H : AH) : Prop := match a with
 | .str _ => T = "str"
 | .ref x => (∃ xs, H x = some (.list xs)) ∧ T = "list"
 | _ => False
theorem TyIs.typeIs {T : String} {a : AV} {v : Value} (h : TyIs T a H) (hv : VRel a v) (S : Sim c L H R s) : s.TypeIs v T ∧ ∀ x : Addr, v = .ref x → ∃ ob, s.heap.get? x = some ob ∧ ob.dict = none := by
 cases a with
 | str x => obtain ⟨t, rfl⟩ := hv; cases h; exact ⟨rfl, fun x e => nomatch e⟩
 | ref x =>
  cases hv
  obtain ⟨⟨xs, hx⟩, rfl⟩ := h
  obtain ⟨ob, g, _, _, vs, n, rfl, _⟩ := S.hp _ _ hx
  exact ⟨⟨_, g, rfl⟩, fun y e => by cases e; exact ⟨_, g, rfl⟩⟩
 | _ => exact h.elim
theorem EW.methB {ob e : Expr} {es : List Expr} {name : Str} {apos pos : Pos} {T id : String} (hp : PlainAttrs T) (hs : Slot T name id) (ht : typeOf (.builtin id) = pure (.type "method_descriptor"))
  (h : EW c ob L H fun a H1 => TyIs T a H1 ∧ ES c (e :: es) pos L H1 fun as H2 => CallW c (.builtin id) (a :: as) L H2 Q)
  (h1 : attributeBase ob name c.d.env (eval ob c.d.env) = eval ob c.d.env := by with_unfolding_all rfl)
  (h2 : ((((backTo pos (starEach (e :: es) c.d.env)).all fun x => !x.1) && (backToKw pos (keywordEach [] c.d.env)).all fun x => x.1.isSome) && decide (((e :: es).length + ([] : List Keyword).length + if ([] : List Keyword).isEmpty = true then 0 else 1) < 30)) = true := by with_unfolding_all rfl)
  (h3 : (apos.endLine == pos.line) = true := by with_unfolding_all rfl)
  (h4 : ((backTo pos (starEach (e :: es) c.d.env)).any fun x => x.1) = false := by with_unfolding_all rfl)
  (h5 : backTo pos (starEach (e :: es) c.d.env) = (false, (backTo pos [(false, eval e c.d.env)]).head!.2) :: backTo pos (starEach es c.d.env) := by with_unfolding_all rfl) : EW c (.Call (.Attribute ob name apos) (e :: es) [] pos) L H Q := fun R s S => by
 refine wpAny_Call_method h1 h2 h3 hp hs ht (h.run S fun v a H1 s1 hv S1 hx0 => ?_)
 obtain ⟨hT, q⟩ := hx0
 obtain ⟨t1, t2⟩ := hT.typeIs hv S1
 refine ⟨t1, t2, callWith_builtin h4 ?_⟩
 rw [h5]
 refine evalArgs_plain ?_
 rw [← h5]
 exact q.run S1 fun vs as H2 s2 hvs S2 q2 => q2 (v :: vs) (.cons hv hvs) R _ S2
theorem CallW.append {a : Addr} {xs : List AV} {x : AV} (ha : H a = some (.list xs)) (hz : xs.length ≤ 1000000) (h : Q .none (hset H a (.list (xs ++ [x])))) : CallW c (.builtin "list.append") [.ref a, x] L H Q := by
 rintro _ (_ | ⟨rfl, _ | ⟨hx, _ | _⟩⟩) R s S
 obtain ⟨ob, g, _, _, vs, n, rfl, hv⟩ := S.hp _ _ ha
 have hl : s.heap.IsList a vs.toArray := ⟨_, g, rfl, _, rfl⟩
 refine wpAny_call_entry slot_list_append hl.typeIs entry_list_append ?_ (args_list_append _ _)
 show wpAny _ _ (updateSeq a (·.push _) >>= fun _ => ret .none) _ _ s
 have e := hv.length
 have hz1 : vs.toArray.size ≤ sizeLine := by rw [List.size_toArray, ← e]; exact Nat.le_trans hz (by decide)
 refine wpAny_bind (wpAny_updateSeq g rfl (wpAny_pure ⟨.none, rfl, .none, _, rfl, put_list S ha g (ws := vs ++ [_]) (by simp) (hv.append (.cons hx .nil)), h⟩) hz1 ?_)
 rw [Array.size_push]; exact Nat.succ_le_succ hz1
theorem CallW.pop {a : Addr} {xs : List AV} {x : AV} (ha : H a = some (.list (xs ++ [x]))) (hz : xs.length ≤ 1000000) (h : Q x (hset H a (.list xs))) : ∀ pos R s, Sim c L H R s →
  wpAny (model prg c.d.w) c.d.A (callWith pos (.builtin "list.pop") [.ref a] [] []) (TQ c L R Q) nE s := fun pos R s S => by
 obtain ⟨ob, g, _, _, vs, n, rfl, hv⟩ := S.hp _ _ ha
 have e := hv.length
 rw [List.length_append, List.length_cons, List.length_nil] at e
 obtain ⟨v, hv1, hv2⟩ := hv.get (i := xs.length) (a := x) (by simp)
 refine PySem.P.pop_list (items := vs.toArray) (n := n) g (y := v) (by rw [List.size_toArray]; simpa [← e] using hv1) ⟨x, _, hv2, put_list S ha g (ws := vs.dropLast) ?_ (by have := hv.dropLast; simpa using this), h⟩ (by rw [List.size_toArray, ← e]; exact Nat.le_trans (Nat.succ_le_succ hz) (by decide))
 apply Array.toList_inj.mp
 rw [Array.toList_eraseIdxIfInBounds]
 rw [List.size_toArray, List.eraseIdx_eq_take_drop_succ, List.dropLast_eq_take]
 simp
 omega
theorem EW.popL {ob : Expr} {apos pos : Pos} (h : EW c ob L H fun a H1 => ∃ l xs x, a = .ref l ∧ H1 l = some (.list (xs ++ [x])) ∧ xs.length ≤ 1000000 ∧ Q x (hset H1 l (.list xs)))
  (h1 : attributeBase ob (Str.ofString "pop") c.d.env (eval ob c.d.env) = eval ob c.d.env := by with_unfolding_all rfl)
  (h2 : ((((backTo pos (starEach [] c.d.env)).all fun x => !x.1) && (backToKw pos (keywordEach [] c.d.env)).all fun x => x.1.isSome) && decide ((([] : List Expr).length + ([] : List Keyword).length + if ([] : List Keyword).isEmpty = true then 0 else 1) < 30)) = true := by with_unfolding_all rfl)
  (h3 : (apos.endLine == pos.line) = true := by with_unfolding_all rfl) : EW c (.Call (.Attribute ob (Str.ofString "pop") apos) [] [] pos) L H Q := fun R s S => by
 refine wpAny_Call_method h1 h2 h3 F.plainAttrs_list F.slot_list_pop F.type_list_pop (h.run S fun v a H1 s1 hv S1 hx0 => ?_)
 obtain ⟨l, xs, x, e, hl, hz, q⟩ := hx0
 subst e
 cases hv
 obtain ⟨ob, g, _, _, vs, n, rfl, hv⟩ := S1.hp _ _ hl
 exact ⟨⟨_, g, rfl⟩, fun y e => by cases e; exact ⟨_, g, rfl⟩, CallW.pop hl hz q _ R _ S1⟩
-- comparisons of lists and tuples
noncomputable def EqW (n : Nat) (H : AH) (a b : AV) (r : Bool) : Prop := ∀ (c : Cx) L R s (A : Around) va vb, A.units + n < 9900 → Sim c L H R s → VRel a va → VRel b vb → EqAt A s va vb r
theorem EqW.int (a b : Int) : EqW 0 H (.int a) (.int b) (a == b) := by
 rintro c L R s A _ _ _ _ ⟨t, rfl⟩ ⟨u, rfl⟩
 exact EqAt.int_int a t b u
theorem EqW.str (a b : W) : EqW 0 H (.str (S a)) (.str (S b)) (a == b) := by
 rintro c L R s A _ _ _ _ ⟨t, rfl⟩ ⟨u, rfl⟩
 rw [← S_beq]
 exact EqAt.str_str _ t _ u
noncomputable def allEq : List AV → List AV → (AV → AV → Bool) → Bool
 | a :: as, b :: bs, f => f a b && allEq as bs f
 | [], [], _ => true
 | _, _, _ => false
theorem allEq_len (f : AV → AV → Bool) : ∀ {as bs : List AV}, as.length ≠ bs.length → allEq as bs f = false
 | [], [], h => absurd rfl h
 | [], _ :: _, _ => rfl
 | _ :: _, [], _ => rfl
 | a :: as, b :: bs, h => by
  show (_ && allEq as bs f) = false
  rw [allEq_len f fun q => h (congrArg Nat.succ q), Bool.and_false]
theorem allEq_range {as bs : List AV} (hl : as.length = bs.length) (f : AV → AV → Bool) : ((List.range as.length).all fun j => f (as.getD j .none) (bs.getD j .none)) = allEq as bs f := by
 induction as generalizing bs with
 | nil => cases bs with
  | nil => rfl
  | cons => cases hl
 | cons a as ih => cases bs with
  | nil => cases hl
  | cons b bs =>
   have := ih (bs := bs) (Nat.succ.inj hl)
   rw [List.length_cons, List.range_succ_eq_map, List.all_cons, List.all_map]
   show (_ && _) = (_ && _)
   rw [← this]
   rfl
theorem allEq_min {as bs : List AV} (f : AV → AV → Bool) : (((List.range (min as.length bs.length)).all fun j => f (as.getD j .none) (bs.getD j .none)) && as.length == bs.length) = allEq as bs f := by
 by_cases h : as.length = bs.length
 ·rw [← allEq_range h, h, Nat.min_self]; simp
 ·rw [allEq_len f h, beq_eq_false_iff_ne.mpr h, Bool.and_false]
theorem allEq_refl (f : AV → AV → Bool) : ∀ {as : List AV}, (∀ a ∈ as, f a a = true) → allEq as as f = true
 | [], _ => rfl
 | a :: as, h => by
  show (f a a && allEq as as f) = true
  rw [h a (.head _), allEq_refl f fun b hb => h b (.tail _ hb)]; rfl
theorem getD_rel {as : List AV} {vs : List Value} (hv : VRels as vs) {j : Nat} (h : j < vs.length) : VRel (as.getD j .none) vs[j] := by
 have : j < as.length := by rw [hv.length]; exact h
 obtain ⟨v, e1, e2⟩ := hv.get (List.getElem?_eq_getElem this)
 rw [List.getElem?_eq_getElem h] at e1
 cases e1
 rw [List.getD_eq_getElem?_getD, List.getElem?_eq_getElem this]
 exact e2
theorem rcLists {la lb : Addr} {as bs : List AV} {n : Nat} {f : AV → AV → Bool} (S : Sim c L H R s) {A : Around} (hA : A.units + n + 1 < 9900) (ha : H la = some (.list as)) (hb : H lb = some (.list bs)) (hf : ∀ a b, a ∈ as → b ∈ bs → EqW n H a b (f a b)) :
  RcAt A s (.ref la) (.ref lb) (allEq as bs f) := by
 obtain ⟨vs, hv, hl⟩ := isL S ha
 obtain ⟨ws, hw, hm⟩ := isL S hb
 have hu : A.units < cLine := (by first | exact Nat.lt_of_le_of_lt (Nat.le_trans (Nat.le_add_right _ n) (Nat.le_succ _)) hA | (show A.units < 9900; omega))
 by_cases hs : as.length = bs.length
 ·have hsz : vs.toArray.size = ws.toArray.size := by rw [List.size_toArray, List.size_toArray, ← hv.length, ← hw.length, hs]
  have := RcAt.lists (e := fun j => f (as.getD j .none) (bs.getD j .none)) hl hm hsz hu fun j h1 h2 => ?_
  ·rw [List.size_toArray, ← hv.length, allEq_range hs] at this
   exact this
  ·have h1' : j < vs.length := by simpa using h1
   have h2' : j < ws.length := by simpa using h2
   have e1 : j < as.length := by rw [hv.length]; exact h1'
   have e2 : j < bs.length := by rw [hw.length]; exact h2'
   refine hf _ _ ?_ ?_ c L R s _ _ _ (by first | exact Nat.lt_of_le_of_lt (Nat.le_of_eq (Nat.add_right_comm A.units 1 n)) hA | (show A.units + 1 + n < _; omega)) S (by simpa using getD_rel hv h1') (by simpa using getD_rel hw h2')
   ·rw [List.getD_eq_getElem?_getD, List.getElem?_eq_getElem e1]; exact List.getElem_mem _
   ·rw [List.getD_eq_getElem?_getD, List.getElem?_eq_getElem e2]; exact List.getElem_mem _
 ·have hsz : (vs.toArray.size != ws.toArray.size) = true := by
   rw [List.size_toArray, List.size_toArray, ← hv.length, ← hw.length]; simpa using hs
  have := RcAt.lists_lengths hl hm hsz hu
  rw [allEq_len f hs]; exact this
theorem CmpW.eqL {n : Nat} (hn : n < 100) {la lb : Addr} {as bs : List AV} (f : AV → AV → Bool) (ha : H la = some (.list as)) (hb : H lb = some (.list bs)) (hf : ∀ a b, a ∈ as → b ∈ bs → EqW n H a b (f a b)) (h : P (allEq as bs f) H) : CmpW c .Eq (.ref la) (.ref lb) L H P := by
 rintro _ _ rfl rfl R s S
 exact cmp_ofEq (rcLists S (units_lt (k := n + 1) S.ok.units (Nat.lt_of_lt_of_le (Nat.succ_lt_succ hn) (by decide))) ha hb hf prg c.d.w nE _ ⟨.bool _, H, rfl, S, _, rfl, h⟩)
theorem CmpW.eqNil {la lb : Addr} {as : List AV} (ha : H la = some (.list as)) (hb : H lb = some (.list [])) (h : P as.isEmpty H) : CmpW c .Eq (.ref la) (.ref lb) L H P :=
 CmpW.eqL (n := 0) (by decide) (fun _ _ => true) ha hb (fun a b _ hb => by cases hb) (by cases as <;> exact h)
theorem rnLists {la lb : Addr} {as bs : List AV} {n : Nat} {f : AV → AV → Bool} (S : Sim c L H R s) {A : Around} (hA : A.units + n + 1 < 9900) (ha : H la = some (.list as)) (hb : H lb = some (.list bs)) (hf : ∀ a b, a ∈ as → b ∈ bs → EqW n H a b (f a b)) :
  RcNeAt A s (.ref la) (.ref lb) (!allEq as bs f) := by
 obtain ⟨vs, hv, hl⟩ := isL S ha
 obtain ⟨ws, hw, hm⟩ := isL S hb
 have hu : A.units < cLine := (by first | exact Nat.lt_of_le_of_lt (Nat.le_trans (Nat.le_add_right _ n) (Nat.le_succ _)) hA | (show A.units < 9900; omega))
 by_cases hs : as.length = bs.length
 ·have hsz : vs.toArray.size = ws.toArray.size := by rw [List.size_toArray, List.size_toArray, ← hv.length, ← hw.length, hs]
  have := RcNeAt.lists (e := fun j => f (as.getD j .none) (bs.getD j .none)) hl hm hsz hu fun j h1 h2 => ?_
  ·rw [List.size_toArray, ← hv.length, allEq_range hs] at this
   exact this
  ·have h1' : j < vs.length := by simpa using h1
   have h2' : j < ws.length := by simpa using h2
   have e1 : j < as.length := by rw [hv.length]; exact h1'
   have e2 : j < bs.length := by rw [hw.length]; exact h2'
   refine hf _ _ ?_ ?_ c L R s _ _ _ (by first | exact Nat.lt_of_le_of_lt (Nat.le_of_eq (Nat.add_right_comm A.units 1 n)) hA | (show A.units + 1 + n < _; omega)) S (by simpa using getD_rel hv h1') (by simpa using getD_rel hw h2')
   ·rw [List.getD_eq_getElem?_getD, List.getElem?_eq_getElem e1]; exact List.getElem_mem _
   ·rw [List.getD_eq_getElem?_getD, List.getElem?_eq_getElem e2]; exact List.getElem_mem _
 ·have hsz : (vs.toArray.size != ws.toArray.size) = true := by
   rw [List.size_toArray, List.size_toArray, ← hv.length, ← hw.length]; simpa using hs
  have := RcNeAt.lists_lengths hl hm hsz hu
  rw [allEq_len f hs]; exact this
theorem CmpW.neL {n : Nat} (hn : n < 100) {la lb : Addr} {as bs : List AV} (f : AV → AV → Bool) (ha : H la = some (.list as)) (hb : H lb = some (.list bs)) (hf : ∀ a b, a ∈ as → b ∈ bs → EqW n H a b (f a b)) (h : P (!allEq as bs f) H) : CmpW c .NotEq (.ref la) (.ref lb) L H P := by
 rintro _ _ rfl rfl R s S
 exact cmp_ofNotEq (rnLists S (units_lt (k := n + 1) S.ok.units (Nat.lt_of_lt_of_le (Nat.succ_lt_succ hn) (by decide))) ha hb hf prg c.d.w nE _ ⟨.bool _, H, rfl, S, _, rfl, h⟩)
theorem CmpW.neNil {la lb : Addr} {as : List AV} (ha : H la = some (.list as)) (hb : H lb = some (.list [])) (h : P (!as.isEmpty) H) : CmpW c .NotEq (.ref la) (.ref lb) L H P :=
 CmpW.neL (n := 0) (by decide) (fun _ _ => true) ha hb (fun a b _ hb => by cases hb) (by cases as <;> exact h)
theorem rcTups {la lb : Addr} {as bs : List AV} {n : Nat} {f : AV → AV → Bool} (S : Sim c L H R s) {A : Around} (hA : A.units + n + 1 < 9900) (ha : H la = some (.tup as)) (hb : H lb = some (.tup bs)) (hf : ∀ a b, a ∈ as → b ∈ bs → EqW n H a b (f a b)) :
  RcAt A s (.ref la) (.ref lb) (allEq as bs f) := by
 obtain ⟨vs, hv, hl⟩ := isT S ha
 obtain ⟨ws, hw, hm⟩ := isT S hb
 have hu : A.units < cLine := (by first | exact Nat.lt_of_le_of_lt (Nat.le_trans (Nat.le_add_right _ n) (Nat.le_succ _)) hA | (show A.units < 9900; omega))
 have := RcAt.tuples (e := fun j => f (as.getD j .none) (bs.getD j .none)) hl hm hu fun j h1 h2 => ?_
 ·rw [List.size_toArray, List.size_toArray, ← hv.length, ← hw.length, allEq_min] at this
  exact this
 ·have h1' : j < vs.length := by simpa using h1
  have h2' : j < ws.length := by simpa using h2
  have e1 : j < as.length := by rw [hv.length]; exact h1'
  have e2 : j < bs.length := by rw [hw.length]; exact h2'
  refine hf _ _ ?_ ?_ c L R s _ _ _ (by first | exact Nat.lt_of_le_of_lt (Nat.le_of_eq (Nat.add_right_comm A.units 1 n)) hA | (show A.units + 1 + n < _; omega)) S (by simpa using getD_rel hv h1') (by simpa using getD_rel hw h2')
  ·rw [List.getD_eq_getElem?_getD, List.getElem?_eq_getElem e1]; exact List.getElem_mem _
  ·rw [List.getD_eq_getElem?_getD, List.getElem?_eq_getElem e2]; exact List.getElem_mem _
theorem EqW.tup {n : Nat} {la lb : Addr} {as bs : List AV} (f : AV → AV → Bool) (ha : H la = some (.tup as)) (hb : H lb = some (.tup bs)) (hf : ∀ a b, a ∈ as → b ∈ bs → EqW n H a b (f a b)) (hr : ∀ a ∈ as, f a a = true) : EqW (n + 1) H (.ref la) (.ref lb) (allEq as bs f) := by
 rintro c L R s A _ _ hA S rfl rfl
 by_cases e : la = lb
 ·subst e
  rw [ha] at hb
  cases hb
  rw [allEq_refl f hr]
  exact EqAt.same _
 ·exact EqAt.of_refs e (rcTups S hA ha hb hf)
-- tuples in order
noncomputable def lexLt : List Int → List Int → Bool
 | _, [] => false
 | [], _ :: _ => true
 | a :: as, b :: bs => if a == b then lexLt as bs else decide (a < b)
theorem VRels.cons_inv {a : AV} {as : List AV} {vs : List Value} (h : VRels (a :: as) vs) : ∃ v ws, vs = v :: ws ∧ VRel a v ∧ VRels as ws := by cases h with | cons h t => exact ⟨_, _, rfl, h, t⟩
theorem cmp_lt_int {A : Around} {E : Value → Shared → Prop} {w : World} {a b : Int} {t u : Tok} {Q : Value → Shared → Prop} (h : Q (.bool (decide (a < b))) s) : wpAny (model prg w) A (richCompare .Lt (.int a t) (.int b u)) Q E s := lt_int h
open Builtin in
inductive LtI {ρ : Type} (s : Shared) (x y : List Int) (rest : List (Value × Value)) (r : Option ρ × PUnit) (s' : Shared) : Prop
 | mk' (e : r.1 = none) (es : s' = s) (x' y' : List Int) (xs' ys' : List Value) (ez : rest = List.zip xs' ys') (hx : VRels (x'.map .int) xs') (hy : VRels (y'.map .int) ys') (el : lexLt x' y' = lexLt x y) (hl : x'.length < y'.length ↔ x.length < y.length)
theorem ltInts_tree {A : Around} {E : Value → Shared → Prop} {w : World} {x y : List Int} {a b : Addr} {vs ws : List Value} {na nb : Nat} {P : Fin → Shared → Prop} (ga : s.heap.get? a = some (tupOf vs.toArray na)) (gb : s.heap.get? b = some (tupOf ws.toArray nb))
  (hv : VRels (x.map .int) vs) (hw : VRels (y.map .int) ws) (h : P (.done (.ret (.bool (lexLt x y)))) s) : wpAny (model prg w) A (Builtin.«tuple.__lt__» ⟨[.ref a, .ref b], []⟩) P E s := by
 show wpAny _ _ (isInstance (.ref b) (.type "tuple") >>= _) _ _ s
 refine wpAny_bind (wpAny_isInstance (T := "tuple") ⟨_, gb, rfl⟩ isSubtype_tuple_tuple ?_)
 simp only [Bool.not_true, Bool.false_eq_true, if_false]
 refine wpAny_bind (wpAny_tupleItemsOf ga rfl ?_)
 refine wpAny_bind (wpAny_tupleItemsOf gb rfl ?_)
 refine wpAny_bind ?_
 refine wpAny_forIn_list _
  (LtI s x y)
  _ ?_ ?_ _ _ (by exact ⟨rfl, rfl, x, y, vs, ws, rfl, hv, hw, rfl, Iff.rfl⟩)
 ·rintro ⟨u, v⟩ rest r s' ⟨hr, rfl, x', y', xs', ys', hz, hx', hy', hdec, hlen⟩
  cases x' with
  | nil => cases hx'; cases hz
  | cons p x'' =>
   obtain ⟨u', xs'', rfl, ⟨tu, rfl⟩, hx''⟩ := hx'.cons_inv
   cases y' with
   | nil => cases hy'; cases hz
   | cons q y'' =>
    obtain ⟨v', ys'', rfl, ⟨tv, rfl⟩, hy''⟩ := hy'.cons_inv
    simp only [List.zip_cons_cons, List.cons.injEq, Prod.mk.injEq] at hz
    obtain ⟨⟨rfl, rfl⟩, rfl⟩ := hz
    refine wpAny_bind (EqAt.int_int p tu q tv prg w _ _ ?_)
    by_cases hpq : p = q
    ·subst hpq
     simp only [beq_self_eq_true, Bool.not_true, Bool.false_eq_true, if_false]
     refine wpAny_pure ⟨rfl, rfl, x'', y'', xs'', ys'', rfl, hx'', hy'', ?_, ?_⟩
     ·rw [← hdec]
      show _ = if (p == p) = true then _ else _
      rw [if_pos (beq_self_eq_true p)]
     ·rw [← hlen]; simp
    ·simp only [beq_eq_false_iff_ne.mpr hpq, Bool.not_false, if_true]
     have hf : decide (p < q) = lexLt x y := by
      rw [← hdec]
      show _ = if (p == q) = true then _ else _
      rw [if_neg (by simpa using hpq)]
     refine wpAny_bind (wpAny_rule (wpAny_bind (cmp_lt_int (wpAny_bind (wpAny_pure (wpAny_pure ?_))))))
     rw [hf]
     exact wpAny_pure h
 ·rintro ⟨r1, r2⟩ s' ⟨hr, rfl, x', y', xs', ys', hz, hx', hy', hdec, hlen⟩
  simp only at hr
  subst hr
  refine wpAny_pure ?_
  have e1 := hv.length
  have e2 := hw.length
  rw [List.length_map] at e1 e2
  have : decide (vs.toArray.size < ws.toArray.size) = lexLt x y := by
   rw [List.size_toArray, List.size_toArray, ← e1, ← e2, ← hdec]
   cases x' with
   | nil => cases y' with
    | nil => exact decide_eq_false fun q => by have := hlen.mpr q; simp at this
    | cons q y'' => exact decide_eq_true (hlen.mp (by simp))
   | cons p x'' => cases y' with
    | nil => exact decide_eq_false fun q => by have := hlen.mpr q; simp at this
    | cons q y'' =>
     obtain ⟨u', xs'', rfl, _, _⟩ := hx'.cons_inv
     obtain ⟨v', ys'', rfl, _, _⟩ := hy'.cons_inv
     cases hz
  show P (.done (.ret (.bool (decide (vs.toArray.size < ws.toArray.size))))) s'
  rw [this]; exact h
theorem ltInts {A : Around} {E : Value → Shared → Prop} {x y : List Int} {a b : Addr} {Q : Value → Shared → Prop} (S : Sim c L H R s) (hA : A.units < 9900) (ha : H a = some (.tup (x.map .int))) (hb : H b = some (.tup (y.map .int))) (h : Q (.bool (lexLt x y)) s) :
  wpAny (model prg c.d.w) A (richCompare .Lt (.ref a) (.ref b)) Q E s := by
 obtain ⟨oa, ga, _, _, vs, na, rfl, hv⟩ := S.hp _ _ ha
 obtain ⟨ob, gb, _, _, ws, nb, rfl, hw⟩ := S.hp _ _ hb
 refine wpAny_richCompare_same_room (op := .Lt) ⟨_, ga, rfl⟩ ⟨_, gb, rfl⟩ F.slot_tuple_lt (wpAny_call_entry F.slot_tuple_lt ⟨_, ga, rfl⟩ F.entry_tuple_lt (ltInts_tree ga gb hv hw ⟨_, rfl, (fun e => nomatch e), h⟩) (F.args_tuple_lt_2 _ _)) hA
inductive KeyOf (H : AH) (v : AV) (k : List Int) : Prop
 | mk' (t at' : Addr) (rest : List AV) (e : v = .ref t) (g : H t = some (.tup (.ref at' :: rest))) (g' : H at' = some (.tup (k.map .int)))
theorem allEq_ints : ∀ x y : List Int, allEq (x.map .int) (y.map .int) (fun a b => match a, b with | .int a, .int b => a == b | _, _ => true) = (x == y)
 | [], [] => rfl
 | [], _ :: _ => rfl
 | _ :: _, [] => rfl
 | a :: x, b :: y => by
  show (_ && _) = _
  rw [allEq_ints x y]
  rfl
theorem EqW.ints {a b : Addr} {x y : List Int} (ha : H a = some (.tup (x.map .int))) (hb : H b = some (.tup (y.map .int))) : EqW 1 H (.ref a) (.ref b) (x == y) := by
 rw [← allEq_ints]
 refine EqW.tup (n := 0) _ ha hb (fun p q hp hq => ?_) fun p hp => ?_
 ·obtain ⟨i, _, rfl⟩ := List.mem_map.mp hp
  obtain ⟨j, _, rfl⟩ := List.mem_map.mp hq
  exact EqW.int i j
 ·obtain ⟨i, _, rfl⟩ := List.mem_map.mp hp
  exact beq_self_eq_true i
open Builtin in
theorem CmpW.ltKey {a b : AV} {x y : List Int} (ha : KeyOf H a x) (hb : KeyOf H b y) (hne : x ≠ y) (h : P (lexLt x y) H) : CmpW c .Lt a b L H P := by
 obtain ⟨ta, aa, ra, rfl, hta, haa⟩ := ha
 obtain ⟨tb, ab, rb, rfl, htb, hab⟩ := hb
 rintro _ _ rfl rfl R s S
 obtain ⟨oa, ga, _, _, vs, na, rfl, hv⟩ := S.hp _ _ hta
 obtain ⟨ob, gb, _, _, ws, nb, rfl, hw⟩ := S.hp _ _ htb
 obtain ⟨_, vs, rfl, rfl, hv⟩ := hv.cons_inv
 obtain ⟨_, ws, rfl, rfl, hw⟩ := hw.cons_inv
 have hu := S.ok.units
 refine wpAny_richCompare_same_room (op := .Lt) ⟨_, ga, rfl⟩ ⟨_, gb, rfl⟩ F.slot_tuple_lt (wpAny_call_entry F.slot_tuple_lt ⟨_, ga, rfl⟩ F.entry_tuple_lt ?_ (F.args_tuple_lt_2 _ _)) S.unitsLt
 show wpAny _ _ (isInstance (.ref tb) (.type "tuple") >>= _) _ _ s
 refine wpAny_bind (wpAny_isInstance (T := "tuple") ⟨_, gb, rfl⟩ isSubtype_tuple_tuple ?_)
 simp only [Bool.not_true, Bool.false_eq_true, if_false]
 refine wpAny_bind (wpAny_tupleItemsOf ga rfl ?_)
 refine wpAny_bind (wpAny_tupleItemsOf gb rfl ?_)
 refine wpAny_bind ?_
 show wpAny _ _ (forIn ((Value.ref aa, Value.ref ab) :: List.zip vs ws) _ _) _ _ s
 rw [List.forIn_cons]
 refine wpAny_bind ?_
 refine wpAny_bind (EqW.ints haa hab c L R s _ _ _ (by first | exact units_lt (k := 2) S.ok.units (by decide) | (show c.d.A.units + 1 + 1 < _; omega)) S rfl rfl prg c.d.w _ _ ?_)
 simp only [beq_eq_false_iff_ne.mpr hne, Bool.not_false, if_true]
 refine wpAny_bind (wpAny_rule (wpAny_bind (ltInts S (by first | exact units_lt (k := 1) S.ok.units (by decide) | (show c.d.A.units + 1 < _; omega)) haa hab (wpAny_bind (wpAny_pure (wpAny_pure (wpAny_pure (wpAny_pure ?_))))))))
 exact ⟨_, rfl, (fun e => nomatch e), .bool _, H, rfl, S, _, rfl, h⟩
end
end
section
open PySem PySem.W PySem.Calls PyProof.Rows PySem.SeqAt
section
variable {c : Cx} {L : AL} {H : AH} {R : List (Addr × Obj)} {s : Shared} {Q : AV → AH → Prop} {P : Bool → AH → Prop}
theorem CallW.range1 {n : Nat} (h : ∀ r t u v, H r = none → Q (.ref r) (hset H r (.raw (rangeO n t u v)))) : CallW c (.type "range") [.int n] L H Q := by
 rintro _ (_ | ⟨⟨t, rfl⟩, _ | _⟩) R s S
 refine call_range_1 ?_
 obtain ⟨hn, S'⟩ := S.push (ao := .raw (rangeO n s.toks t (s.toks + 1))) (o := rangeO n s.toks t (s.toks + 1)) ⟨rfl, rfl⟩
 exact ⟨.ref _, _, rfl, S'.toks, h _ _ _ _ hn⟩
noncomputable def TestsW (c : Cx) (ifs : List Expr) (L : AL) (H : AH) (P : Bool → AH → Prop) : Prop :=
 BW c (forIn ifs true fun e r => if r = true then do let ok ← isTrue e c.d.env (eval e c.d.env); pure (ForInStep.yield ok) else pure (ForInStep.yield r)) L H P
theorem TestsW.nil (h : P true H) : TestsW c [] L H P := fun R s S => wpAny_tests_nil ⟨H, S, h⟩
theorem TestsW.one {e : Expr} (h : CB c e L H P) : TestsW c [e] L H P := fun R s S => wpAny_tests_one (h R s S)
noncomputable def relNs (ns : List (Str × NameKind)) (names : List (Str × NameKind)) : List (Str × NameKind) := names.map fun (n, k) => if (k == .free && ns.lookup n == some .cell) then (n, .cell) else (n, k)
theorem relNs_eq {scope : Scope} (S : Sim c L H R s) : (relabel scope c.d.env).names = relNs c.ns scope.names := by
 unfold relabel relNs Env.kindOf
 rw [S.ok.names, S.ok.kind]
 simp
noncomputable def cxC (c : Cx) (scope : Scope) (cl : List (Str × Addr)) (C : Addr) (m : Str → Option Value) : Cx :=
 ⟨{ c.d with env := compEnvC scope cl C c.d.env, comp := true, fm := if c.d.comp then c.d.fm else m }, relNs c.ns scope.names, cl⟩
inductive ToC (c : Cx) (scope : Scope) (cl : List (Str × Addr)) (L : AL) (H : AH) (R : List (Addr × Obj)) (C : Addr) (s1 : Shared) : Prop
 | mk' (m : Str → Option Value) (pre : List (Addr × Obj)) (h1 : ∀ p ∈ pre ++ R, p.1 ≠ C) (h2 : ∀ p ∈ pre, p.1 = c.d.L) (S : Sim (cxC c scope cl C m) (fun _ => none) H (pre ++ R) s1) (hL : c.d.L ≠ C)
  (back : ∀ (s' : Shared) L' H' R2, (∀ p ∈ R2, p.1 ≠ c.d.L) → Sim (cxC c scope cl C m) L' H' (pre ++ R2) s' → Sim c L H' R2 s')
theorem Sim.toC (S : Sim c L H R s) {scope : Scope} {cl : List (Str × Addr)} {h' : Heap} (hk : scope.kind = .function) (hn : h'.Ns s.heap.objs.size (fun _ => none)) (hs : Heap.SameBut s.heap.objs.size (s.heap.push { cls := .type "dict", data := .dict #[] }) h') :
  ToC c scope cl L H R s.heap.objs.size { s with heap := h' } := by
 obtain ⟨m, F, hm⟩ := S.fr
 have hnew := newAt s.heap
 have hkeep : ∀ b o, s.heap.get? b = some o → h'.get? b = some o := fun b o e => (hs.2 b (fun q => by rw [q, hnew] at e; cases e)).trans (Heap.get?_push_of_some _ e)
 have S1 : Sim c L H R { s with heap := h' } := S.ext (tk := s.toks) (dr := s.drawn) hkeep
 have hsz : c.d.h₀.objs.size ≤ s.heap.objs.size := by
  have := F.above
  exact Nat.le_trans this (Nat.le_of_lt F.ns.lt)
 have h0 : c.d.h₀.get? s.heap.objs.size = none := by
  cases z : c.d.h₀.get? s.heap.objs.size with
  | none => rfl
  | some x => exact absurd (Nat.lt_of_lt_of_le (Heap.lt_size z) hsz) (Nat.lt_irrefl _)
 have hL0 : c.d.h₀.get? c.d.L = none := by
  cases q : c.d.h₀.get? c.d.L with
  | none => rfl
  | some x => exact absurd (Nat.lt_of_lt_of_le (Heap.lt_size q) F.above) (Nat.lt_irrefl _)
 obtain ⟨m1, F1, _⟩ := S1.fr
 have hlt : ∀ b o, s.heap.get? b = some o → b ≠ s.heap.objs.size := fun b o e q => by rw [q, hnew] at e; cases e
 have ok' : ∀ mm, (cxC c scope cl s.heap.objs.size mm).d.Ok (cxC c scope cl s.heap.objs.size mm).ns (cxC c scope cl s.heap.objs.size mm).cl := fun mm =>
  ⟨S.ok.below, S.ok.kin, S.ok.top, S.ok.frames, S.ok.handled, S.ok.frame, S.ok.fkind, (fun e => nomatch e), fun _ => ?_, hk, relNs_eq S, rfl, S.ok.globals, S.ok.blt, S.ok.room, S.ok.units⟩
 ·have hHn : ∀ a ao, H a = some ao → a ≠ s.heap.objs.size := fun a ao e => by obtain ⟨o, g, _⟩ := S.hp a ao e; exact hlt a o g
  have hLC : c.d.L ≠ s.heap.objs.size := Nat.ne_of_lt F.ns.lt
  have hLH : H c.d.L = none := by
   cases q : H c.d.L with
   | none => rfl
   | some x => obtain ⟨_, _, g, _⟩ := S.hp _ _ q; exact absurd rfl g
  have frC : Fr c.d.h₀ s.heap.objs.size h' (fun _ => none) := ⟨hn, F1.keep, hsz⟩
  by_cases hc : c.d.comp = true
  ·have f := S.frm hc
   obtain ⟨oL, es, ep, hoL, hd, hkk, hf⟩ := F.ns
   refine ⟨m, [(c.d.L, oL)], fun p hp => ?_, fun p hp => ?_, ⟨ok' m, ⟨_, frC, fun x v e => nomatch e⟩, fun p hp => ?_, fun a ao e => ?_, S.fin, fun p hp => ?_, S.gens, S.os, fun _ => ?_⟩, hLC, fun s' L' H' R2 hR2 S' => ?_⟩
   ·rcases List.mem_cons.mp hp with rfl | hp
    ·exact hLC
    ·exact hlt _ _ (S.nw _ hp).1
   ·rcases List.mem_cons.mp hp with rfl | hp
    ·rfl
    ·cases hp
   ·rcases List.mem_cons.mp hp with rfl | hp
    ·exact ⟨hkeep _ _ hoL, hLC, hL0⟩
    ·have := S.nw _ hp
     exact ⟨hkeep _ _ this.1, hlt _ _ this.1, this.2.2⟩
   ·obtain ⟨o, g, _, g2, g3⟩ := S1.hp a ao e
    exact ⟨o, g, hHn a ao e, g2, g3⟩
   ·rcases List.mem_cons.mp hp with rfl | hp
    ·exact hLH
    ·exact S.sep _ hp
   ·have f1 := S1.frm hc
    have e : (cxC c scope cl s.heap.objs.size m).d.fm = c.d.fm := if_pos hc
    exact ⟨by rw [e]; exact f1.ns, Nat.ne_of_lt f.ns.lt, f.nh, fun p hp => by
     rcases List.mem_cons.mp hp with rfl | hp
     ·exact fun q => f.nl q.symm
     ·exact f.nr _ hp⟩
   ·have f' := S'.frm rfl
    have e : (cxC c scope cl s.heap.objs.size m).d.fm = c.d.fm := if_pos hc
    have hL' := (S'.nw _ (.head _)).1
    have hLs := S'.sep _ (.head _)
    obtain ⟨m2, F2, _⟩ := S'.fr
    refine ⟨S.ok, ⟨m, ⟨⟨oL, es, ep, hL', hd, hkk, hf⟩, F2.keep, F.above⟩, hm⟩, fun p hp => ⟨(S'.nw _ (.tail _ hp)).1, hR2 p hp, (S'.nw _ (.tail _ hp)).2.2⟩, fun a ao e => ?_, S'.fin, fun p hp => S'.sep _ (.tail _ hp), S'.gens, S'.os, fun _ => ⟨by have := f'.ns; rw [e] at this; exact this, f.nl, f'.nh, fun p hp => f'.nr p (.tail _ hp)⟩⟩
    obtain ⟨o, g, _, g2, g3⟩ := S'.hp a ao e
    exact ⟨o, g, (fun q => by rw [q, hLs] at e; cases e), g2, g3⟩
  ·have he := S.ok.same (by simpa using hc)
   have eF : c.d.F = c.d.L := by show c.d.fenv.locals = c.d.env.locals; rw [he]
   refine ⟨m, [], fun p hp => hlt _ _ (S.nw _ hp).1, (fun p hp => nomatch hp), ⟨ok' m, ⟨_, frC, fun x v e => nomatch e⟩, fun p hp => ?_, fun a ao e => ?_, S.fin, S.sep, S.gens, S.os, fun _ => ?_⟩, hLC, fun s' L' H' R2 hR2 S' => ?_⟩
   ·have := S.nw _ hp
    exact ⟨hkeep _ _ this.1, hlt _ _ this.1, this.2.2⟩
   ·obtain ⟨o, g, _, g2, g3⟩ := S1.hp a ao e
    exact ⟨o, g, hHn a ao e, g2, g3⟩
   ·have e : (cxC c scope cl s.heap.objs.size m).d.fm = m := if_neg hc
    have e2 : (cxC c scope cl s.heap.objs.size m).d.F = c.d.L := eF
    exact ⟨by rw [e, e2]; exact F.ns.keeps hkeep, by rw [e2]; exact hLC, by rw [e2]; exact hLH, fun p hp => by rw [e2]; exact (S.nw _ hp).2.1⟩
   ·have f' := S'.frm rfl
    have e : (cxC c scope cl s.heap.objs.size m).d.fm = m := if_neg hc
    have e2 : (cxC c scope cl s.heap.objs.size m).d.F = c.d.L := eF
    have ns' := f'.ns
    rw [e, e2] at ns'
    have nh' := f'.nh
    rw [e2] at nh'
    obtain ⟨m2, F2, _⟩ := S'.fr
    refine ⟨S.ok, ⟨m, ⟨ns', F2.keep, F.above⟩, hm⟩, fun p hp => ⟨(S'.nw _ hp).1, hR2 p hp, (S'.nw _ hp).2.2⟩, fun a ao e => ?_, S'.fin, S'.sep, S'.gens, S'.os, fun q => absurd q hc⟩
    obtain ⟨o, g, _, g2, g3⟩ := S'.hp a ao e
    exact ⟨o, g, (fun q => by rw [q, nh'] at e; cases e), g2, g3⟩
 ·by_cases hc : c.d.comp = true
  ·exact S.ok.hF hc
  ·have he := S.ok.same (by simpa using hc)
   show c.d.h₀.objs.size ≤ c.d.fenv.locals
   rw [he]; exact F.above
theorem Sim.swapR {a b : Addr × Obj} (S : Sim c L H (a :: b :: R) s) : Sim c L H (b :: a :: R) s := S.dropR fun p hp => by
 rcases List.mem_cons.mp hp with rfl | hp
 ·exact .tail _ (.head _)
 ·rcases List.mem_cons.mp hp with rfl | hp
  ·exact .head _
  ·exact .tail _ (.tail _ hp)
theorem Sim.addR {a : Addr} {o : Obj} (S : Sim c L H R s) (g : s.heap.get? a = some o) (h1 : a ≠ c.d.L) (h2 : c.d.h₀.get? a = none) (h3 : H a = none) (h4 : c.d.comp = true → a ≠ c.d.F) : Sim c L H ((a, o) :: R) s :=
 ⟨S.ok, S.fr, fun p hp => by
  rcases List.mem_cons.mp hp with rfl | hp
  ·exact ⟨g, h1, h2⟩
  ·exact S.nw p hp, S.hp, S.fin, fun p hp => by
  rcases List.mem_cons.mp hp with rfl | hp
  ·exact h3
  ·exact S.sep p hp, S.gens, S.os, fun e => let f := S.frm e; ⟨f.ns, f.nl, f.nh, fun p hp => by
  rcases List.mem_cons.mp hp with rfl | hp
  ·exact h4 e
  ·exact f.nr p hp⟩⟩
noncomputable def turnG (target iter : Expr) (ifs : List Expr) (it : Value) (env : Env) (body : Sem Fin) (next : Code) : Sem Fin := do
 standAt iter.pos
 match ← pyNext it with
 | none => pure (.done .next)
 | some v =>
  letOwnedTupleGo target it v
  PySem.assign target env v
  let mut ok := true
  for c in ifs do
   if ok then ok ← isTrue c env (eval c env)
  if ok then body else again next
noncomputable def emitG (elt : Expr) (acc : Value) (env : Env) : Sem Unit := do let _ ← call (.builtin "list.append") [acc, ← eval elt env]
theorem turn2_0 (elt t1 i1 t2 i2 : Expr) (scope : Scope) (pos : Pos) (it acc : Value) (env : Env) :
  compTurn (.ListComp elt [⟨t1, i1, [], 0⟩, ⟨t2, i2, [], 0⟩] scope pos) 0 it acc env = turnG t1 i1 [] it env (do
   let x ← eval i2 env
   standAt i2.pos
   let x ← foldedSetIterable i2 env x
   let _ ← runOwn (.compStart (.ListComp elt [⟨t1, i1, [], 0⟩, ⟨t2, i2, [], 0⟩] scope pos) 1 (← holding [x] (pyIter x)) acc env) env
   again (.compLoop (.ListComp elt [⟨t1, i1, [], 0⟩, ⟨t2, i2, [], 0⟩] scope pos) 0 it acc env)) (.compLoop (.ListComp elt [⟨t1, i1, [], 0⟩, ⟨t2, i2, [], 0⟩] scope pos) 0 it acc env) := by rfl
theorem turn2_1 (elt t1 i1 t2 i2 : Expr) (scope : Scope) (pos : Pos) (it acc : Value) (env : Env) :
  compTurn (.ListComp elt [⟨t1, i1, [], 0⟩, ⟨t2, i2, [], 0⟩] scope pos) 1 it acc env = turnG t2 i2 [] it env (emitG elt acc env >>= fun _ => again (.compLoop (.ListComp elt [⟨t1, i1, [], 0⟩, ⟨t2, i2, [], 0⟩] scope pos) 1 it acc env)) (.compLoop (.ListComp elt [⟨t1, i1, [], 0⟩, ⟨t2, i2, [], 0⟩] scope pos) 1 it acc env) := by rfl
theorem turn1_0 (elt t1 i1 : Expr) (ifs : List Expr) (scope : Scope) (pos : Pos) (it acc : Value) (env : Env) :
  compTurn (.ListComp elt [⟨t1, i1, ifs, 0⟩] scope pos) 0 it acc env = turnG t1 i1 ifs it env (emitG elt acc env >>= fun _ => again (.compLoop (.ListComp elt [⟨t1, i1, ifs, 0⟩] scope pos) 0 it acc env)) (.compLoop (.ListComp elt [⟨t1, i1, ifs, 0⟩] scope pos) 0 it acc env) := by rfl
inductive BodyQ (c : Cx) (D : Addr) (R : List (Addr × Obj)) (Q : List AV → AH → Prop) (s' : Shared) : Prop
 | mk' (L' : AL) (H' : AH) (ys' : List AV) (vs' : List Value) (k' : Nat) (hv : VRels ys' vs') (S : Sim c L' H' ((D, listOf vs'.toArray k') :: R) s') (q : Q ys' H')
noncomputable def BodyW (c : Cx) (t : Sem Fin) (next : Code) (D : Addr) (ys : List AV) (L : AL) (H : AH) (Q : List AV → AH → Prop) : Prop := ∀ R vs k s, VRels ys vs → (∀ p ∈ R, p.1 ≠ D) → Sim c L H ((D, listOf vs.toArray k) :: R) s →
 wpAny (model prg c.d.w) c.d.A t (fun fin s' => fin = .again next ∧ BodyQ c D R Q s') nE s
theorem BodyW.emit {next : Code} {elt : Expr} {D : Addr} {ys : List AV} {Q : List AV → AH → Prop} (hy : ys.length ≤ 100000) (h : EW c elt L H fun y H' => Q (ys ++ [y]) H') : BodyW c (emitG elt (.ref D) c.d.env >>= fun _ => again next) next D ys L H Q := by
 intro R vs k s hv hR S
 refine wpAny_bind ?_
 unfold emitG
 refine wpAny_bind (h.run S fun y ay H4 s4 hy' S4 q4 => ?_)
 refine wpAny_bind ?_
 have g := (S4.nw _ (.head _)).1
 have hl : s4.heap.IsList D vs.toArray := ⟨_, g, rfl, _, rfl⟩
 refine wpAny_call_entry slot_list_append hl.typeIs entry_list_append ?_ (args_list_append _ _)
 show wpAny _ _ (updateSeq D (·.push _) >>= fun _ => ret .none) _ _ s4
 have e := hv.length
 have hz1 : vs.toArray.size ≤ sizeLine := by rw [List.size_toArray, ← e]; exact Nat.le_trans hy (by decide)
 obtain ⟨k', e'⟩ := mapSeq_list (·.push y) vs.toArray k
 have epush : vs.toArray.push y = (vs ++ [y]).toArray := by simp
 rw [epush] at e'
 have S6 := S4.setR (tk := s4.toks) (h' := s4.heap.update D (Obj.mapSeq (·.push y))) (o' := listOf (vs ++ [y]).toArray k') hR (Heap.SameBut.update ..) (by rw [Heap.get?_update_self _ g (by rw [e']; rfl), e'])
 exact wpAny_bind (wpAny_updateSeq g rfl (wpAny_pure ⟨.none, rfl, wpAny_pure (wpAny_pure ⟨rfl, L, H4, ys ++ [ay], vs ++ [y], k', hv.append (.cons hy' .nil), S6, q4⟩)⟩) hz1 (by rw [Array.size_push]; exact Nat.succ_le_succ hz1))
inductive ClI (c : Cx) (it D : Addr) (R' : List (Addr × Obj)) (St : Nat → Obj → Prop) (Inv : Nat → List AV → AH → Prop) (N n : Nat) (s : Shared) : Prop
 | mk' (i : Nat) (L : AL) (H : AH) (o : Obj) (ys : List AV) (vs : List Value) (k : Nat) (en : n = N - i) (hi : i ≤ N) (st : St i o) (hv : VRels ys vs) (S : Sim c L H ((it, o) :: (D, listOf vs.toArray k) :: R') s) (hI : Inv i ys H)
theorem clauseW {elt target iter : Expr} {ifs : List Expr} {gens : List Comprehension} {depth : Nat} {body : Sem Fin} {scope : Scope} {pos : Pos} {src : AH → Prop} {xs : List AV} {it D : Addr} {o : Obj} {St : Nat → Obj → Prop} {R' : List (Addr × Obj)} {n₀ : Nat} {H0 : AH} {ys0 : List AV} {vs0 : List Value}
  (hturn : compTurn (.ListComp elt gens scope pos) depth (.ref it) (.ref D) c.d.env = turnG target iter ifs (.ref it) c.d.env body (.compLoop (.ListComp elt gens scope pos) depth (.ref it) (.ref D) c.d.env)) (spec : ItSpec c it St src xs)
  (Inv : Nat → List AV → AH → Prop) (hsrc : ∀ i ys H, Inv i ys H → src H)
  (step : ∀ i x ys L' H', xs[i]? = some x → Inv i ys H' → AsW c target x L' H' fun L2 H2 => TestsW c ifs L2 H2 fun ok H3 => if ok = true then BodyW c body (.compLoop (.ListComp elt gens scope pos) depth (.ref it) (.ref D) c.d.env) D ys L2 H3 (Inv (i + 1)) else Inv (i + 1) ys H3)
  (st : St 0 o) (hn : ∀ p ∈ R', p.1 ≠ it) (hD : it ≠ D) (hRD : ∀ p ∈ R', p.1 ≠ D) (hv0 : VRels ys0 vs0) (S : Sim c L H0 ((it, o) :: (D, listOf vs0.toArray n₀) :: R') s) (hI : Inv 0 ys0 H0)
  {RR : Result → Shared → Prop} (hR : ∀ s' L' H' ys vs n, VRels ys vs → Inv xs.length ys H' → Sim c L' H' ((D, listOf vs.toArray n) :: R') s' → RR (.ok .next) s') :
  codeAny (model prg c.d.w) c.d.A (.compLoop (.ListComp elt gens scope pos) depth (.ref it) (.ref D) c.d.env) RR s := by
 refine codeAny_loop rfl (ClI c it D R' St Inv xs.length) (fun n s hI => ?_) xs.length
   ⟨0, _, _, o, ys0, vs0, n₀, rfl, Nat.zero_le _, st, hv0, S, hI⟩
 obtain ⟨i, L, H, o, ys, vs, k, rfl, hi, st, hv, S, hI⟩ := hI
 show wpAny _ c.d.A ((compTurn (.ListComp elt gens scope pos) depth (.ref it) (.ref D) c.d.env).onRaise (fun x => do noteFrame x c.d.env; theTreesLotGoes x)) _ _ s
 refine wpAny_noted ?_
 rw [hturn]
 unfold turnG
 have hn2 : ∀ vs k, ∀ p ∈ (D, listOf vs k) :: R', p.1 ≠ it := fun vs k p hp => by
  rcases List.mem_cons.mp hp with rfl | hp
  ·exact Ne.symm hD
  ·exact hn p hp
 refine wpAny_bind (wpAny_standAt (wpAny_bind ?_))
 cases hx : xs[i]? with
 | none =>
  refine wpAny_mono (spec.done _ (hsrc _ _ _ hI) hx st (hn2 _ _) S) (fun r s' hx0 => ?_) fun _ _ x => x
  obtain ⟨e, S'⟩ := hx0
  subst e
  have : i = xs.length := end_idx hx hi
  subst this
  exact wpAny_pure (hR _ _ _ _ _ _ hv hI S')
 | some a =>
  have hlt : i < xs.length := (List.getElem?_eq_some_iff.mp hx).1
  refine wpAny_mono (spec.item _ (hsrc _ _ _ hI) hx st (hn2 _ _) S) (fun r s' hx0 => ?_) fun _ _ x => x
  obtain ⟨v, o', e, hv', st', S'⟩ := hx0
  subst e
  refine wpAny_bind (spec.go st' S' ?_)
  refine wpAny_bind ((step _ _ _ _ _ hx hI v hv').run S' fun L' H' s2 S2 q => wpAny_bind (q.run S2 fun ok H3 s3 S3 q3 => ?_))
  cases ok with
  | false =>
   rw [if_neg (by decide)] at q3
   exact wpAny_pure ⟨rfl, xs.length - (i + 1), sub1_lt hlt, i + 1, _, _, o', ys, vs, k, rfl, hlt, st', hv, S3, q3⟩
  | true =>
   rw [if_pos rfl] at q3
   have hnR : ∀ p ∈ (it, o') :: R', p.1 ≠ D := fun p hp => by
    rcases List.mem_cons.mp hp with rfl | hp
    ·exact hD
    ·exact hRD p hp
   refine wpAny_mono (q3 ((it, o') :: R') vs k _ hv hnR S3.swapR) (fun fin s5 hx0 => ?_) fun _ _ x => x.elim
   obtain ⟨e5, L5, H5, ys', vs', k', hv5, S5, q5⟩ := hx0
   subst e5
   exact ⟨rfl, xs.length - (i + 1), sub1_lt hlt, i + 1, L5, H5, o', ys', vs', k', rfl, hlt, st', hv5, S5.swapR, q5⟩
theorem codeAny_compStart1 {w : World} {A : Around} {RR : Result → Shared → Prop} {elt : Expr} {g0 : Comprehension} {target iter ifs scope pos it acc env}
  (h0 : codeAny (model prg w) A (.compLoop (.ListComp elt [g0, ⟨target, iter, ifs, 0⟩] scope pos) 1 it acc env) RR s)
  (h : wpAny (model prg w) A (pyIter it) (fun it' s' => codeAny (model prg w) A (.compLoop (.ListComp elt [g0, ⟨target, iter, ifs, 0⟩] scope pos) 1 it' acc env) RR s')
   (notedBy (model prg w) A env fun x s' => RR (.error x) s') s) :
  codeAny (model prg w) A (.compStart (.ListComp elt [g0, ⟨target, iter, ifs, 0⟩] scope pos) 1 it acc env) RR s := by
 refine codeAny_of_tree ?_
 show wpAny _ _ ((compStart (.ListComp elt [g0, ⟨target, iter, ifs, 0⟩] scope pos) 1 it acc env).onRaise (fun x => do noteFrame x env; standAt theWindowsPlace)) _ _ s
 refine wpAny_notedAt ?_
 unfold compStart
 show wpAny _ _ (ask >>= _) _ _ s
 refine wpAny_bind (wpAny_askSetting (wpAny_ite ?_))
 split
 ·first
   | exact wpAny_bind (wpAny_pure (wpAny_pure (And.intro rfl h0)))
   | exact wpAny_pure (And.intro rfl h0)
 ·refine wpAny_bind (wpAny_rule ?_)
  show wpAny _ _ (standAt iter.pos >>= _) _ _ s
  exact wpAny_bind (wpAny_standAt (wpAny_bind (wpAny_mono h (fun it' s' h' => wpAny_pure (And.intro rfl h')) fun _ _ x => x)))
inductive NestB (c : Cx) (elt t2 : Expr) (ys : List AV) (Q : List AV → AH → Prop) (a : AV) (H1 : AH) : Prop
 | mk' (src : AH → Prop) (xs : List AV) (hi : IterW c a H1 src xs) (Inv : Nat → List AV → AH → Prop) (h0 : Inv 0 ys H1) (hsrc : ∀ i ys H, Inv i ys H → src H)
  (hstep : ∀ i x ys L' H', xs[i]? = some x → Inv i ys H' → ys.length ≤ 100000 ∧ AsW c t2 x L' H' fun L2 H2 => EW c elt L2 H2 fun y H4 => Inv (i + 1) (ys ++ [y]) H4) (hfin : ∀ ys H', Inv xs.length ys H' → Q ys H')
inductive Comp2B (c : Cx) (nm : List (Str × NameKind)) (cl : List (Str × Addr)) (elt t1 t2 i2 : Expr) (Q : AV → AH → Prop) (a : AV) (H1 : AH) : Prop
 | mk' (src : AH → Prop) (xs : List AV) (hi : IterW c a H1 src xs) (Inv : Nat → List AV → AH → Prop) (h0 : Inv 0 [] H1) (hsrc : ∀ i ys H, Inv i ys H → src H)
  (hstep : ∀ d : Dy, d.room = c.d.room → d.w = c.d.w → ∀ i x ys L' H', xs[i]? = some x → Inv i ys H' → AsW ⟨d, nm, cl⟩ t1 x L' H' fun L2 H2 => EW ⟨d, nm, cl⟩ i2 L2 H2 (NestB ⟨d, nm, cl⟩ elt t2 ys (Inv (i + 1))))
  (hfin : ∀ ys H', Inv xs.length ys H' → ∀ D, H' D = none → Q (.ref D) (hset H' D (.list ys)))
theorem BodyW.nest {elt t1 i1 t2 i2 : Expr} {scope : Scope} {pos : Pos} {D : Addr} {ys : List AV} {next : Code} {Q : List AV → AH → Prop} (hs : ∀ x, foldedSetIterable i2 c.d.env x = pure x)
  (h : EW c i2 L H (NestB c elt t2 ys Q)) :
  BodyW c (do
   let x ← eval i2 c.d.env
   standAt i2.pos
   let x ← foldedSetIterable i2 c.d.env x
   let _ ← runOwn (.compStart (.ListComp elt [⟨t1, i1, [], 0⟩, ⟨t2, i2, [], 0⟩] scope pos) 1 (← holding [x] (pyIter x)) (.ref D) c.d.env) c.d.env
   again next) next D ys L H Q := by
 intro R vs k s hv hR S
 refine wpAny_bind (h.run S fun v a H1 s1 hva S1 hx0 => ?_)
 obtain ⟨src, xs, hi, Inv, h0, hsrc, hstep, hfin⟩ := hx0
 refine wpAny_bind (wpAny_standAt ?_)
 rw [hs]
 refine wpAny_bind (wpAny_pure (wpAny_bind (wpAny_holding ?_)))
 refine wpAny_mono (hi v hva L _ s1 nE S1) (fun r s2 hx0 => ?_) fun _ _ x => x
 obtain ⟨it, o, St, e, spec, st, hn, S2⟩ := hx0
 subst e
 have hitD : it ≠ D := fun q => hn _ (.head _) q.symm
 have sp := spec c S.ok.handled
 have loop : ∀ s, Sim c L H1 ((it, o) :: (D, listOf vs.toArray k) :: R) s → codeAny (model prg c.d.w) c.d.A (.compLoop (.ListComp elt [⟨t1, i1, [], 0⟩, ⟨t2, i2, [], 0⟩] scope pos) 1 (.ref it) (.ref D) c.d.env)
   (fun r s' => match r with
    | .ok _ => BodyQ c D R Q s'
    | .error _ => False) s := fun s S => by
  refine clauseW (turn2_1 ..) sp Inv hsrc (fun i x ys L' H' hx hI => ?_) st (fun p hp => hn p (.tail _ hp)) hitD hR hv S h0 fun s' L' H' ys vs n hv' hI S' => ⟨L', H', ys, vs, n, hv', S', hfin _ _ hI⟩
  obtain ⟨hy, q⟩ := hstep i x ys L' H' hx hI
  intro vx hvx
  exact fun R s S => (q vx hvx).run S fun L2 H2 s2 S2 q2 => ⟨L2, H2, S2, TestsW.nil (by rw [if_pos rfl]; exact BodyW.emit hy q2)⟩
 refine wpAny_bind (wpAny_runOwn (codeAny_compStart1 ?_ ?_))
 ·exact codeAny_mono (loop _ S2) fun r s' q => by
   cases r with
   | ok f => exact wpAny_pure ⟨rfl, q⟩
   | error e => exact q.elim
 ·refine sp.self st S2 ?_
  exact codeAny_mono (loop _ S2) fun r s' q => by
   cases r with
   | ok f => exact wpAny_pure ⟨rfl, q⟩
   | error e => exact q.elim
theorem compWalkG {elt target iter : Expr} {ifs : List Expr} {rest : List Comprehension} {body : Addr → Addr → Env → Sem Fin} {scope : Scope} {pos : Pos} {cl : List (Str × Addr)} {use : Option (Value → Sem Unit)} {QQ : Value → Shared → Prop} {Inv : Nat → List AV → AH → Prop} {src : AH → Prop} {xs : List AV} {a : AV} {v : Value}
  (hturn : ∀ it D env, compTurn (.ListComp elt (⟨target, iter, ifs, 0⟩ :: rest) scope pos) 0 (.ref it) (.ref D) env = turnG target iter ifs (.ref it) env (body it D env) (.compLoop (.ListComp elt (⟨target, iter, ifs, 0⟩ :: rest) scope pos) 0 (.ref it) (.ref D) env))
  (hi : IterW c a H src xs) (hv : VRel a v) (h0 : Inv 0 [] H) (hsrc : ∀ i ys H, Inv i ys H → src H)
  (step : ∀ c' : Cx, c'.ns = relNs c.ns scope.names → c'.cl = cl → c'.d.room = c.d.room → c'.d.w = c.d.w → ∀ it D i x ys L' H', xs[i]? = some x → Inv i ys H' → AsW c' target x L' H' fun L2 H2 => TestsW c' ifs L2 H2 fun ok H3 => if ok = true then BodyW c' (body it D c'.d.env) (.compLoop (.ListComp elt (⟨target, iter, ifs, 0⟩ :: rest) scope pos) 0 (.ref it) (.ref D) c'.d.env) D ys L2 H3 (Inv (i + 1)) else Inv (i + 1) ys H3)
  (hk : scope.kind = .function) (hcell : ∀ x ∈ scope.names, x.2 ≠ .cell) (S : Sim c L H R s)
  (fin : ∀ D C s' ys vs n H' oC m, VRels ys vs → Inv xs.length ys H' → s'.heap.Ns C m → H' C = none → c.d.L ≠ C → Sim c L H' ((C, oC) :: (D, listOf vs.toArray n) :: R) s' → (∀ p ∈ R, p.1 ≠ D) → (C ≠ D) → (∀ p ∈ R, p.1 ≠ C) → compPost (model prg c.d.w) c.d.A nE use QQ (.ref D) C (.ok .next) s') :
  wpAny (model prg c.d.w) c.d.A (pyIter v) (fun it s₂ => wpAny (model prg c.d.w) c.d.A (newList []) (fun acc s₃ =>
   wpAny (model prg c.d.w) c.d.A (newFunctionEnv scope c.d.env.globals cl [] c.d.env.qual none .none (some c.d.env)) (fun cenv s₄ =>
    codeAny (model prg c.d.w) c.d.A (.compStart (.ListComp elt (⟨target, iter, ifs, 0⟩ :: rest) scope pos) 0 it acc { cenv with scope := relabel scope c.d.env }) (compPost (model prg c.d.w) c.d.A nE use QQ acc cenv.locals) s₄) nE s₃) nE s₂) nE s := by
 refine wpAny_mono (hi v hv L R s nE S) (fun r s2 hx0 => ?_) fun _ _ x => x
 obtain ⟨it, o, St, e, spec, st, hn, S2⟩ := hx0
 subst e
 refine wpAny_newList ?_ (Nat.zero_le _)
 obtain ⟨hnD, S3⟩ := S2.pushR (o := listOf #[] 0) rfl
 have hitD : it ≠ s2.heap.objs.size := fun q => hnD _ (.head _) q
 refine wpAny_newFunctionEnv hcell (fun x hx => nomatch hx) (fun h' hns hs => ?_) hk
 obtain ⟨m, pre, hpre, hpL, S4, hLC, back⟩ := S3.toC (cl := cl) hk hns hs
 have sp := spec (cxC c scope cl (s2.heap.push (listOf #[] 0)).objs.size m) S.ok.handled
 have loop : ∀ s, Sim (cxC c scope cl (s2.heap.push (listOf #[] 0)).objs.size m) (fun _ => none) H ((it, o) :: (s2.heap.objs.size, listOf #[] 0) :: (pre ++ R)) s → codeAny (model prg c.d.w) c.d.A (.compLoop (.ListComp elt (⟨target, iter, ifs, 0⟩ :: rest) scope pos) 0 (.ref it) (.ref s2.heap.objs.size) (compEnvC scope cl (s2.heap.push (listOf #[] 0)).objs.size c.d.env)) (compPost (model prg c.d.w) c.d.A nE use QQ (.ref s2.heap.objs.size) (s2.heap.push (listOf #[] 0)).objs.size) s := by
  intro s S0
  refine clauseW (c := cxC c scope cl (s2.heap.push (listOf #[] 0)).objs.size m) (hturn ..) sp Inv hsrc (step (cxC c scope cl (s2.heap.push (listOf #[] 0)).objs.size m) rfl rfl rfl rfl it s2.heap.objs.size) st (fun p hp => ?_) hitD (fun p hp => ?_) (vs0 := []) .nil S0 h0 fun s' L' H' ys vs n hv' hI S5 => ?_
  ·rcases List.mem_append.mp hp with hp | hp
   ·rw [hpL p hp]; exact Ne.symm (S2.nw _ (.head _)).2.1
   ·exact hn p hp
  ·rcases List.mem_append.mp hp with hp | hp
   ·rw [hpL p hp]; exact Ne.symm (S3.nw _ (.head _)).2.1
   ·exact hnD p (.tail _ hp)
  ·obtain ⟨m5, F5, _⟩ := S5.fr
   obtain ⟨oC, es, ep, hoC, rest⟩ := F5.ns
   have hHC : H' (s2.heap.push (listOf #[] 0)).objs.size = none := by
    cases q : H' (s2.heap.push (listOf #[] 0)).objs.size with
    | none => rfl
    | some x => obtain ⟨_, _, g, _⟩ := S5.hp _ _ q; exact absurd rfl g
   have hsz : s2.heap.objs.size < (s2.heap.push (listOf #[] 0)).objs.size := Heap.lt_size (Heap.get?_push_size _ rfl)
   have S6 : Sim c L H' ((s2.heap.objs.size, listOf vs.toArray n) :: R) s' := back s' L' H' _ (fun p hp => by
    rcases List.mem_cons.mp hp with rfl | hp
    ·exact (S3.nw _ (.head _)).2.1
    ·exact (S.nw _ hp).2.1) (S5.dropR fun p hp => by
    rcases List.mem_append.mp hp with hp | hp
    ·exact .tail _ (List.mem_append_left _ hp)
    ·rcases List.mem_cons.mp hp with rfl | hp
     ·exact .head _
     ·exact .tail _ (List.mem_append_right _ hp))
   have hC0 : c.d.h₀.get? (s2.heap.push (listOf #[] 0)).objs.size = none := by
    cases z : c.d.h₀.get? (s2.heap.push (listOf #[] 0)).objs.size with
    | none => rfl
    | some x => exact absurd (Nat.lt_of_lt_of_le (Heap.lt_size z) F5.above) (Nat.lt_irrefl _)
   exact fin _ _ s' ys vs n H' oC m5 hv' hI F5.ns hHC hLC (S6.addR hoC (Ne.symm hLC) hC0 hHC fun e => Ne.symm (S5.frm rfl).nl) (fun p hp => hnD p (.tail _ hp)) (Ne.symm (Nat.ne_of_lt hsz)) (fun p hp => hpre p (List.mem_append_right _ (.tail _ (.tail _ hp))))
 have S4' : Sim (cxC c scope cl (s2.heap.push (listOf #[] 0)).objs.size m) (fun _ => none) H ((it, o) :: (s2.heap.objs.size, listOf #[] 0) :: (pre ++ R)) _ := S4.dropR fun p hp => by
  rcases List.mem_cons.mp hp with rfl | hp
  ·exact List.mem_append_right _ (.tail _ (.head _))
  ·rcases List.mem_cons.mp hp with rfl | hp
   ·exact List.mem_append_right _ (.head _)
   ·rcases List.mem_append.mp hp with hp | hp
    ·exact List.mem_append_left _ hp
    ·exact List.mem_append_right _ (.tail _ (.tail _ hp))
 exact codeAny_compStart_list (loop _ S4') (sp.self st S4' (loop _ S4'))
structure OutC (I : List AV → AH → Prop) (ys : List AV) (P : AV → AH → Prop) (P' : AH → Prop) : Prop where
 yes : ∀ {y H}, I (ys ++ [y]) H → P y H
 no : ∀ {H}, I ys H → P' H
theorem OutC.step {cl : List (Str × Addr)} {nms : List (Str × NameKind)} {elt target iter : Expr} {ifs : List Expr} {scope : Scope} {pos : Pos} {xs : List AV} {Inv : Nat → List AV → AH → Prop} (hlen : xs.length ≤ 100000)
  (h : ∀ d : Dy, d.room = c.d.room → d.w = c.d.w → ∀ i x ys L' H', xs[i]? = some x → ∀ P P', OutC (Inv (i + 1)) ys P P' → Inv i ys H' → AsW ⟨d, nms, cl⟩ target x L' H' fun L2 H2 => TestsW ⟨d, nms, cl⟩ ifs L2 H2 fun ok H3 => if ok = true then EW ⟨d, nms, cl⟩ elt L2 H3 P else P' H3) :
  ∀ c' : Cx, c'.ns = nms → c'.cl = cl → c'.d.room = c.d.room → c'.d.w = c.d.w → ∀ (it D : Addr) i x ys L' H', xs[i]? = some x → (Inv i ys H' ∧ ys.length ≤ i) → AsW c' target x L' H' fun L2 H2 => TestsW c' ifs L2 H2 fun ok H3 =>
   if ok = true then BodyW c' (emitG elt (.ref D) c'.d.env >>= fun _ => again (.compLoop (.ListComp elt [⟨target, iter, ifs, 0⟩] scope pos) 0 (.ref it) (.ref D) c'.d.env)) (.compLoop (.ListComp elt [⟨target, iter, ifs, 0⟩] scope pos) 0 (.ref it) (.ref D) c'.d.env) D ys L2 H3 (fun ys H => Inv (i + 1) ys H ∧ ys.length ≤ i + 1)
   else Inv (i + 1) ys H3 ∧ ys.length ≤ i + 1 := fun c' e1 e2 e3 e4 it D i x ys L' H' hx hI v hv R s S => by
 obtain ⟨d, n, l⟩ := c'
 subst e1 e2
 have hi := (List.getElem?_eq_some_iff.mp hx).1
 refine (h d e3 e4 i x ys L' H' hx _ _ ⟨id, id⟩ hI.1 v hv).run S fun L2 H2 s2 S2 q => ⟨L2, H2, S2, BW.mono q fun ok H3 q => ?_⟩
 cases ok with
 | true =>
  rw [if_pos rfl] at q ⊢
  exact BodyW.emit (Nat.le_trans hI.2 (by omega)) (q.mono fun y H4 q => ⟨q, by rw [List.length_append]; exact Nat.succ_le_succ hI.2⟩)
 | false =>
  rw [if_neg (by decide)] at q ⊢
  exact ⟨q, Nat.le_succ_of_le hI.2⟩
inductive CompB (c : Cx) (nm : List (Str × NameKind)) (cl : List (Str × Addr)) (elt target : Expr) (ifs : List Expr) (Q : AV → AH → Prop) (a : AV) (H1 : AH) : Prop
 | mk' (src : AH → Prop) (xs : List AV) (hi : IterW c a H1 src xs) (hlen : xs.length ≤ 100000) (Inv : Nat → List AV → AH → Prop) (h0 : Inv 0 [] H1) (hsrc : ∀ i ys H, Inv i ys H → src H)
  (hstep : ∀ d : Dy, d.room = c.d.room → d.w = c.d.w → ∀ i x ys L' H', xs[i]? = some x → ∀ P P', OutC (Inv (i + 1)) ys P P' → Inv i ys H' → AsW ⟨d, nm, cl⟩ target x L' H' fun L2 H2 => TestsW ⟨d, nm, cl⟩ ifs L2 H2 fun ok H3 => if ok = true then EW ⟨d, nm, cl⟩ elt L2 H3 P else P' H3)
  (hfin : ∀ ys H', ys.length ≤ xs.length → Inv xs.length ys H' → ∀ D, H' D = none → Q (.ref D) (hset H' D (.list ys)))
inductive CompS (c : Cx) (nm : List (Str × NameKind)) (cl : List (Str × Addr)) (elt target : Expr) (ifs : List Expr) (x : Str) (L : AL) (Q : AF → AL → AH → Prop) (a : AV) (H1 : AH) : Prop
 | mk' (src : AH → Prop) (xs : List AV) (hi : IterW c a H1 src xs) (hlen : xs.length ≤ 100000) (Inv : Nat → List AV → AH → Prop) (h0 : Inv 0 [] H1) (hsrc : ∀ i ys H, Inv i ys H → src H)
  (hstep : ∀ d : Dy, d.room = c.d.room → d.w = c.d.w → ∀ i x ys L' H', xs[i]? = some x → ∀ P P', OutC (Inv (i + 1)) ys P P' → Inv i ys H' → AsW ⟨d, nm, cl⟩ target x L' H' fun L2 H2 => TestsW ⟨d, nm, cl⟩ ifs L2 H2 fun ok H3 => if ok = true then EW ⟨d, nm, cl⟩ elt L2 H3 P else P' H3)
  (hfin : ∀ ys H', ys.length ≤ xs.length → Inv xs.length ys H' → ∀ D, H' D = none → Q .next (lset L x (.ref D)) (hset H' D (.list ys)))
noncomputable def cloF (cs : List (Str × Addr)) : List (Str × NameKind) → List (Str × Addr) → Option (List (Str × Addr))
 | [], acc => some acc
 | (x, k) :: xs, acc => if k == .free then (match cs.lookup x with | some a => cloF cs xs ((x, a) :: acc) | none => none) else cloF cs xs acc
theorem clo {scope : Scope} {cl0 cl : List (Str × Addr)} (e : cloF cl0 scope.names [] = some cl) (env : Env) (h : env.cells = cl0) : closureFor scope env = pure cl := by
 unfold closureFor
 dsimp only
 rw [bind_pure]
 generalize scope.names = xs at e
 generalize ([] : List (Str × Addr)) = acc at e
 induction xs generalizing acc with
 | nil => cases e; rfl
 | cons x xs ih =>
  obtain ⟨x, k⟩ := x
  rw [List.forIn_cons]
  unfold cloF at e
  dsimp only at e ⊢
  split at e
  ·rename_i hk
   rw [if_pos hk]
   split at e
   ·rename_i a ha
    have : cellOf env x = pure a := by unfold cellOf; rw [h, ha]
    rw [this]
    simp only [pure_bind, bind_assoc]
    exact ih _ e
   ·cases e
  ·rename_i hk
   rw [if_neg hk]
   simp only [pure_bind]
   exact ih _ e
theorem EW.comp {elt target iter : Expr} {ifs : List Expr} {scope : Scope} {pos : Pos} {cl : List (Str × Addr)} (hcl : ∀ env : Env, env.cells = c.cl → closureFor scope env = pure cl)
  (h : EW c iter L H (CompB c (relNs c.ns scope.names) cl elt target ifs Q))
  (hk : scope.kind = .function := by with_unfolding_all rfl) (hcell : ∀ x ∈ scope.names, x.2 ≠ .cell := by with_unfolding_all decide) (hnames : ∀ x ∈ scope.names, x.2 = .local → scope.names.lookup x.1 = some .local := by with_unfolding_all decide)
  (hs : ∀ x, foldedSetIterable iter c.d.env x = pure x := by intro _; with_unfolding_all rfl) : EW c (.ListComp elt [⟨target, iter, ifs, 0⟩] scope pos) L H Q := fun R s S => by
 rw [eval_ListComp]
 refine wpAny_comprehension_free (use := none) rfl hs (hcl _ S.ok.cells) hk hnames ?_
 refine h.run S fun v a H1 s1 hv S1 hb => ?_
 obtain ⟨src, xs, hi, hlen, Inv, h0, hsrc, hstep, hfin⟩ := hb
 refine compWalkG (Inv := fun i ys H => Inv i ys H ∧ ys.length ≤ i) (fun it D env => turn1_0 ..) hi hv ⟨h0, Nat.le_refl 0⟩ (fun i ys H h => hsrc i ys H h.1) (OutC.step hlen hstep) hk hcell S1 fun D C s' ys vs n H' oC m hv' hIy hns hHC hLC S6 hRD hCD hRC => ?_
 have hI := hIy.1
 have hy := hIy.2
 refine ⟨m, hns, fun h' hs' => ?_⟩
 have S7 : Sim c L H' ((D, listOf vs.toArray n) :: R) { s' with heap := h' } := S6.endR (tk := s'.toks) (fun p hp => by
  rcases List.mem_cons.mp hp with rfl | hp
  ·exact Ne.symm hCD
  ·exact hRC p hp) hs'.extBut
 have hD : H' D = none := S7.sep _ (.head _)
 exact ⟨.ref D, _, rfl, S7.ofR (ao := .list ys) (.head _) ⟨vs, n, rfl, hv'⟩ fun p hp => ⟨.tail _ hp, hRD p hp⟩, hfin ys H' hy hI D hD⟩
theorem EW.comp2 {elt t1 i1 t2 i2 : Expr} {scope : Scope} {pos : Pos} {cl : List (Str × Addr)} (hcl : ∀ env : Env, env.cells = c.cl → closureFor scope env = pure cl)
  (h : EW c i1 L H (Comp2B c (relNs c.ns scope.names) cl elt t1 t2 i2 Q))
  (hk : scope.kind = .function := by with_unfolding_all rfl) (hcell : ∀ x ∈ scope.names, x.2 ≠ .cell := by with_unfolding_all decide) (hnames : ∀ x ∈ scope.names, x.2 = .local → scope.names.lookup x.1 = some .local := by with_unfolding_all decide)
  (hs : ∀ x, foldedSetIterable i1 c.d.env x = pure x := by intro _; with_unfolding_all rfl) (hs2 : ∀ (env : Env) x, foldedSetIterable i2 env x = pure x := by intro _ _; with_unfolding_all rfl) : EW c (.ListComp elt [⟨t1, i1, [], 0⟩, ⟨t2, i2, [], 0⟩] scope pos) L H Q := fun R s S => by
 rw [eval_ListComp]
 refine wpAny_comprehension_free (use := none) rfl hs (hcl _ S.ok.cells) hk hnames ?_
 refine h.run S fun v a H1 s1 hv S1 hx0 => ?_
 obtain ⟨src, xs, hi, Inv, h0, hsrc, hstep, hfin⟩ := hx0
 refine compWalkG (fun it D env => turn2_0 ..) hi hv h0 hsrc (fun c' e1 e2 e3 e4 it D i x ys L' H' hx hI vx hvx R s S => ?_) hk hcell S1 fun D C s' ys vs n H' oC m hv' hI hns hHC hLC S6 hRD hCD hRC => ?_
 ·obtain ⟨d, nn, ll⟩ := c'
  subst e1 e2
  exact (hstep d e3 e4 i x ys L' H' hx hI vx hvx).run S fun L2 H2 s2 S2 q2 => ⟨L2, H2, S2, TestsW.nil (by rw [if_pos rfl]; exact BodyW.nest (hs2 _) q2)⟩
 ·refine ⟨m, hns, fun h' hs' => ?_⟩
  have S7 : Sim c L H' ((D, listOf vs.toArray n) :: R) { s' with heap := h' } := S6.endR (tk := s'.toks) (fun p hp => by
   rcases List.mem_cons.mp hp with rfl | hp
   ·exact Ne.symm hCD
   ·exact hRC p hp) hs'.extBut
  have hD : H' D = none := S7.sep _ (.head _)
  exact ⟨.ref D, _, rfl, S7.ofR (ao := .list ys) (.head _) ⟨vs, n, rfl, hv'⟩ fun p hp => ⟨.tail _ hp, hRD p hp⟩, hfin ys H' hI D hD⟩
theorem ST.assignComp {x : Str} {px : Pos} {elt target iter : Expr} {ifs : List Expr} {scope : Scope} {pos spos : Pos} {cl : List (Str × Addr)} {Q : AF → AL → AH → Prop} (hcl : ∀ env : Env, env.cells = c.cl → closureFor scope env = pure cl)
  (hx : c.ns.lookup x = some .local)
  (h : EW c iter L H (CompS c (relNs c.ns scope.names) cl elt target ifs x L Q))
  (hsw : ∀ env : Env, env.blockKind = .function → env.kindOf x = some .local → swapsWith (.ListComp elt [⟨target, iter, ifs, 0⟩] scope pos) (some (.Name x px)) spos.line env = pure true)
  (hk : scope.kind = .function := by with_unfolding_all rfl) (hcell : ∀ x ∈ scope.names, x.2 ≠ .cell := by with_unfolding_all decide) (hnames : ∀ x ∈ scope.names, x.2 = .local → scope.names.lookup x.1 = some .local := by with_unfolding_all decide)
  (hs : ∀ x, foldedSetIterable iter c.d.env x = pure x := by intro _; with_unfolding_all rfl) : ST c (.Assign [.Name x px] (.ListComp elt [⟨target, iter, ifs, 0⟩] scope pos) spos) L H Q := fun R s S => by
 have hkx : c.d.env.kindOf x = some .local := by unfold Env.kindOf; rw [S.ok.names]; exact hx
 rw [exec_Assign_Name_used _ _ _ _ (hsw _ (by unfold Env.blockKind; rw [S.ok.kind]; rfl) hkx)]
 refine wpAny_bind (wpAny_standAt (wpAny_bind ?_))
 show wpAny _ _ (do let _ ← comprehension (.ListComp elt [⟨target, iter, ifs, 0⟩] scope pos) scope c.d.env _ (newList []) false (eval iter c.d.env) (some (PySem.assign (.Name x px) c.d.env))) _ _ s
 refine wpAny_bind (wpAny_mono (wpAny_comprehension_free (use := some (PySem.assign (.Name x px) c.d.env)) (Q := fun _ => UQ c R (Q .next) ()) rfl hs (hcl _ S.ok.cells) hk hnames
  (h.run S fun v a H1 s1 hv S1 hb => ?_)) (fun _ s' h' => by obtain ⟨L', H', S', q⟩ := h'; exact wpAny_pure (wpAny_pure ⟨.next, L', H', rfl, S', q⟩)) fun _ _ e => e)
 obtain ⟨src, xs, hi, hlen, Inv, h0, hsrc, hstep, hfin⟩ := hb
 refine compWalkG (Inv := fun i ys H => Inv i ys H ∧ ys.length ≤ i) (fun it D env => turn1_0 ..) hi hv ⟨h0, Nat.le_refl 0⟩ (fun i ys H h => hsrc i ys H h.1) (OutC.step hlen hstep) hk hcell S1 fun D C s' ys vs n H' oC m hv' hIy hns hHC hLC S6 hRD hCD hRC => ?_
 have hI := hIy.1
 have hy := hIy.2
 show wpAny _ _ (PySem.assign (.Name x px) c.d.env (.ref D)) _ _ _
 have hD : H' D = none := S6.sep _ (.tail _ (.head _))
 have S7 : Sim c L (hset H' D (.list ys)) ((C, oC) :: R) s' := S6.ofR (ao := .list ys) (.tail _ (.head _)) ⟨vs, n, rfl, hv'⟩ fun p hp => by
  rcases List.mem_cons.mp hp with rfl | hp
  ·exact ⟨.head _, hCD⟩
  ·exact ⟨.tail _ (.tail _ hp), hRD p hp⟩
 refine wpAny_assign_Name ((UW.store (Q := fun L' H'' => L' = lset L x (.ref D) ∧ H'' = hset H' D (.list ys)) hx (av := .ref D) rfl ⟨rfl, rfl⟩).run S7 fun L' H'' s2 S8 hx0 => ?_)
 obtain ⟨e1, e2⟩ := hx0
 subst e1 e2
 have hoC := (S8.nw _ (.head _)).1
 have hoC' := (S6.nw _ (.head _)).1
 refine ⟨m, hns.at fun o e => by rw [hoC'] at e; cases e; exact hoC, fun h' hs' => ⟨_, _, S8.endR (tk := s2.toks) hRC hs'.extBut, hfin ys H' hy hI D hD⟩⟩
-- small things
theorem EW.usub {e : Expr} {pos : Pos} (h : EW c e L H fun a H1 => ∃ i, a = .int i ∧ Q (.int (-i)) H1) : EW c (.UnaryOp .USub e pos) L H Q := fun R s S =>
 UnaryOp_ (h.run S fun v a H1 s1 hv S1 zz => by
  obtain ⟨i, e, q⟩ := zz
  subst e
  obtain ⟨t, rfl⟩ := hv
  exact PyProof.Rows.neg_int ⟨.int (-i), H1, ⟨_, rfl⟩, S1.toks, q⟩)
theorem CallW.strI {i : Int} (hi : i.natAbs.log2 < 1920) (h : Q (.str (S (lit (toString i)))) H) : CallW c (.type "str") [.int i] L H Q := by
 rintro _ (_ | ⟨⟨t, rfl⟩, _ | _⟩) R s S
 exact P.str_of_int hi ⟨.str (Mine.Internal.S (lit (toString i))), H, ⟨_, rfl⟩, S.toks, h⟩
theorem HLe.mut {H H' : AH} {a : Addr} {o : AObj} (h : H a = none) (k : HLe H H') : HLe H (hset H' a o) := fun b ob e => (hset_ne fun q => by rw [q, h] at e; cases e).trans (k b ob e)
theorem ne_of {H : AH} {a b : Addr} {o : AObj} (h : H a = none) (k : H b = some o) : a ≠ b := fun q => by rw [q, k] at h; cases h
noncomputable def hdel (H : AH) (a : Addr) : AH := fun b => if b = a then none else H b
theorem hdel_self (H : AH) (a : Addr) : hdel H a a = none := if_pos rfl
theorem hdel_ne {H : AH} {a b : Addr} (h : b ≠ a) : hdel H a b = H b := if_neg h
theorem hdel_hset (H : AH) (a : Addr) (o : AObj) : hset (hdel H a) a o = hset H a o := by
 funext b
 by_cases q : b = a
 ·rw [q, hset_same, hset_same]
 ·rw [hset_ne q, hset_ne q, hdel_ne q]
theorem HLe.del {H H' : AH} {a : Addr} (h : H a = none) (k : HLe H H') : HLe H (hdel H' a) := fun b ob e => (hdel_ne fun q => by rw [q, h] at e; cases e).trans (k b ob e)
theorem hset_none {H : AH} {a b : Addr} {o : AObj} (h : hset H a o b = none) : H b = none := by
 by_cases q : b = a
 ·rw [q, hset_same] at h; cases h
 ·rwa [hset_ne q] at h
theorem HLe.back {H H' : AH} {a : Addr} (k : HLe H H') (h : H' a = none) : H a = none := by
 cases q : H a with
 | none => rfl
 | some o => have := k _ _ q; rw [h] at this; cases this
theorem SS.seq {st : Stmt} {sts : List Stmt} {Q : AF → AL → AH → Prop} (Mid : AL → AH → Prop) (h1 : ∀ P, Shut (fun f L1 H1 => f = .next ∧ Mid L1 H1) P → ST c st L H P) (h2 : ∀ L1 H1, Mid L1 H1 → SS c sts L1 H1 Q) : SS c (st :: sts) L H Q :=
 SS.cons (XW.mono (h1 _ ⟨id⟩) fun f L1 H1 z => by obtain ⟨e, m⟩ := z; subst e; exact h2 L1 H1 m)
theorem SS.one {st : Stmt} {Q : AF → AL → AH → Prop} (h : ST c st L H Q) : SS c [st] L H Q :=
 SS.cons (XW.mono h fun f L1 H1 q => by
  cases f with
  | next => exact SS.nil q
  | _ => exact q)
theorem OpW.addT {a b : Addr} {as bs : List AV} (ha : H a = some (.tup as)) (hb : H b = some (.tup bs)) (hz : as.length + bs.length ≤ 1000000) (hbn : bs ≠ []) (h : ∀ x H', HLe H H' → H' x = some (.tup (as ++ bs)) → (∀ y, H' y = none → H y = none) → Q (.ref x) H') : OpW c .Add (.ref a) (.ref b) L H Q := by
 rintro _ _ rfl rfl R s S
 obtain ⟨_, ga, _, _, vs, na, rfl, hv⟩ := S.hp _ _ ha
 obtain ⟨_, gb, _, _, ws, nb, rfl, hw⟩ := S.hp _ _ hb
 have e1 := hv.length
 have e2 := hw.length
 cases as with
 | nil =>
  cases hv
  exact concat_meets ⟨_, ga, rfl⟩ ⟨_, gb, rfl⟩ noFill_tuple_add seq_tuple_add F.slot_tuple_add F.entry_tuple_add (F.args_tuple_add_2 _ _) (AutoSeq1.tuple___add___tuple_tuple_0 a _ na b ws.toArray nb rfl) ⟨ga, gb, .ref b, H, rfl, S, h b H HLe.rfl hb fun _ => id⟩
 | cons x as =>
  refine PySem.P.add_tuple ga gb (by rw [List.isEmpty_toArray]; cases hv; simp) (by rw [List.isEmpty_toArray]; cases hw with
   | nil => exact absurd rfl hbn
   | cons => simp) ?_ (by rw [List.size_toArray, List.size_toArray, ← e1, ← e2]; exact Nat.le_trans hz (by decide))
  obtain ⟨n, S'⟩ := S.push (ao := .tup (x :: as ++ bs)) (o := tupOf (vs.toArray ++ ws.toArray) 0) ⟨vs ++ ws, 0, by simp, hv.append hw⟩
  exact ⟨.ref _, _, rfl, S', h _ _ (HLe.new n) (hset_same _ _ _) fun y hy => hset_none hy⟩
end
end
section
open PySem PySem.W PySem.Calls PyProof.Rows PySem.SeqAt
theorem pf : (pure false : Sem Bool) = pure false := rfl
theorem tt : true = true := rfl
theorem ff : false = false := rfl
theorem leD {n a b : Nat} (h : n ≤ a) (e : Nat.ble a b = true) : n ≤ b := Nat.le_trans h (Nat.le_of_ble_eq_true e)
theorem addD {m n a b k : Nat} (h : m ≤ a) (h2 : n ≤ b) (e : Nat.ble (a + b) k = true) : m + n ≤ k := leD (Nat.add_le_add h h2) e
theorem apD {x y : W} {a b k : Nat} (h : x.length ≤ a) (h2 : y.length ≤ b) (e : Nat.ble (a + b) k = true) : (x ++ y).length ≤ k := by rw [List.length_append]; exact addD h h2 e
theorem kl : some NameKind.local = some NameKind.local := rfl
theorem kg : some NameKind.globalImplicit = some NameKind.globalImplicit := rfl
theorem lk_skip {L : AL} {x y : Str} {a v : AV} (h : y ≠ x) (k : L y = some v) : lset L x a y = some v := (lset_ne h).trans k
theorem if_t {p : Prop} [Decidable p] {A B : Prop} (h : p) (k : A) : if p then A else B := by rw [if_pos h]; exact k
theorem if_f {p : Prop} [Decidable p] {A B : Prop} (h : ¬ p) (k : B) : if p then A else B := by rw [if_neg h]; exact k
theorem ne_true {b : Bool} (h : b = false) : ¬ b = true := by rw [h]; decide
theorem room_le {n k a b : Nat} (h : n ≤ b) (e : a + 1 = b) (q : (k + 1).ble n = true) : k ≤ a := by
 exact Nat.le_of_succ_le_succ (Nat.le_trans (Nat.le_of_ble_eq_true q) (Nat.le_trans h (Nat.le_of_eq e.symm)))
theorem room_le2 {n k a b x : Nat} (h : n ≤ b) (e : a + 1 = b) (e2 : x = a) (q : (k + 1).ble n = true) : k ≤ x := by rw [e2]; exact room_le h e q
theorem room_1 {n b : Nat} (h : n ≤ b) (q : (1 : Nat).ble n = true) : 1 ≤ b := Nat.le_trans (Nat.le_of_ble_eq_true q) h
noncomputable def plainX : Expr → Bool
 | .Starred .. => false
 | _ => true
theorem starEach_cons {e : Expr} {es : List Expr} {env : Env} (h : plainX e = true) : starEach (e :: es) env = (false, eval e env) :: starEach es env := by
 cases e <;> first | rfl | cases h
theorem backTo_cons {e : Expr} {es : List Expr} {env : Env} {pos : Pos} (h : plainX e = true) : backTo pos (starEach (e :: es) env) = (false, (backTo pos [(false, eval e env)]).head!.2) :: backTo pos (starEach es env) := by
 rw [starEach_cons h]; rfl
theorem backTo_any {es : List Expr} {env : Env} {pos : Pos} (h : es.all plainX = true) : ((backTo pos (starEach es env)).any fun x => x.1) = false := by
 induction es with
 | nil => rfl
 | cons e es ih =>
  rw [List.all_cons, Bool.and_eq_true] at h
  rw [backTo_cons h.1, List.any_cons, ih h.2]; rfl
theorem backTo_all {es : List Expr} {env : Env} {pos : Pos} (h : es.all plainX = true) : ((backTo pos (starEach es env)).all fun x => !x.1) = true := by
 induction es with
 | nil => rfl
 | cons e es ih =>
  rw [List.all_cons, Bool.and_eq_true] at h
  rw [backTo_cons h.1, List.all_cons, ih h.2]; rfl
section
variable {c : Cx} {L : AL} {H : AH} {Q : AV → AH → Prop}
noncomputable def Then (c : Cx) (sts : List Stmt) (Q : AF → AL → AH → Prop) : AF → AL → AH → Prop := fun f L1 H1 => match f with | .next => SS c sts L1 H1 Q | f => Q f L1 H1
theorem d_seq {st : Stmt} {sts : List Stmt} {Q : AF → AL → AH → Prop} (h : ST c st L H (Then c sts Q)) : SS c (st :: sts) L H Q := SS.cons h
theorem Then.next {sts : List Stmt} {Q : AF → AL → AH → Prop} (h : SS c sts L H Q) : Then c sts Q .next L H := h
theorem Then.ret {sts : List Stmt} {Q : AF → AL → AH → Prop} {a : AV} (h : Q (.ret a) L H) : Then c sts Q (.ret a) L H := h
theorem Then.cont {sts : List Stmt} {Q : AF → AL → AH → Prop} (h : Q .cont L H) : Then c sts Q .cont L H := h
theorem d_mid {st : Stmt} {sts : List Stmt} {Q : AF → AL → AH → Prop} (Mid : AL → AH → Prop) (h1 : ∀ P, Shut (fun f L1 H1 => f = .next ∧ Mid L1 H1) P → ST c st L H P) (h2 : ∀ L1 H1, Mid L1 H1 → SS c sts L1 H1 Q) : ST c st L H (Then c sts Q) :=
 XW.mono (h1 _ ⟨id⟩) fun f L1 H1 hx => by obtain ⟨e, m⟩ := hx; subst e; exact h2 L1 H1 m
-- lists of expressions
@[reducible] def pushQ (Q : List AV → AH → Prop) (a : AV) : List AV → AH → Prop := fun as => Q (a :: as)
@[reducible] def ESK (c : Cx) (es : List Expr) (pos : Pos) (L : AL) (Q : List AV → AH → Prop) : AV → AH → Prop := fun a H1 => ES c es pos L H1 (pushQ Q a)
theorem d_es {e : Expr} {es : List Expr} {pos : Pos} {Q : List AV → AH → Prop} (he : plainX e = true) (h : EW c e L H (ESK c es pos L Q)) : ES c (e :: es) pos L H Q := ES.cons h (starEach_cons he)
theorem d_esn {x : Str} {np : Pos} {es : List Expr} {pos : Pos} {Q : List AV → AH → Prop} {av : AV} (hk : c.ns.lookup x = some .local) (hv : L x = some av) (h : ES c es pos L H (pushQ Q av)) (hd : (x == ("__debug__" : Str)) = false := by decide) : ES c (.Name x np :: es) pos L H Q :=
 ES.cons (EW.name hk hv h hd) rfl
theorem d_esi {i : Int} {k : Nat} {cp : Pos} {es : List Expr} {pos : Pos} {Q : List AV → AH → Prop} (h : ES c es pos L H (pushQ Q (.int i))) : ES c (.Constant (.int i) k cp :: es) pos L H Q := ES.cons (EW.cInt h) rfl
theorem d_ess {x : String} {k : Nat} {cp : Pos} {es : List Expr} {pos : Pos} {Q : List AV → AH → Prop} (h : ES c es pos L H (pushQ Q (.str (S (lit x))))) : ES c (.Constant (.str (Str.ofString x)) k cp :: es) pos L H Q := ES.cons (EW.cS h) rfl
theorem d_list {es : List Expr} {pos : Pos} (h : ES c es pos L H (ListK Q)) : EW c (.List es pos) L H Q := EW.list h
theorem d_tup {es : List Expr} {k : Nat} {pos : Pos} (h : ES c es pos L H (TplK Q)) : EW c (.Tuple es k pos) L H Q := EW.tup h
-- operations
@[reducible] def OpK (c : Cx) (op : Operator) (a : AV) (L : AL) (Q : AV → AH → Prop) : AV → AH → Prop := fun b H2 => OpW c op a b L H2 Q
@[reducible] def BinK (c : Cx) (op : Operator) (r : Expr) (L : AL) (Q : AV → AH → Prop) : AV → AH → Prop := fun a H1 => EW c r L H1 (OpK c op a L Q)
theorem d_bin {l r : Expr} {op : Operator} {pos : Pos} (h : EW c l L H (BinK c op r L Q)) : EW c (.BinOp l op r pos) L H Q := EW.binop h
@[reducible] def CmK2 (c : Cx) (op : CmpOp) (a : AV) (L : AL) (Q : Bool → AH → Prop) : AV → AH → Prop := fun b H2 => CmpW c op a b L H2 Q
@[reducible] def CmK (c : Cx) (op : CmpOp) (r : Expr) (L : AL) (Q : Bool → AH → Prop) : AV → AH → Prop := fun a H1 => EW c r L H1 (CmK2 c op a L Q)
@[reducible] def boolQ (Q : AV → AH → Prop) : Bool → AH → Prop := fun b => Q (.bool b)
theorem d_ccmp {l r : Expr} {op : CmpOp} {pos : Pos} {Q : Bool → AH → Prop} (h : EW c l L H (CmK c op r L Q)) (hm : behindInMarks op r = false := by with_unfolding_all exact ff) : CB c (.Compare l [op] [r] pos) L H Q := CB.cmp h hm
theorem d_cmp {l r : Expr} {op : CmpOp} {pos : Pos} (h : EW c l L H (CmK c op r L (boolQ Q))) (hm : behindInMarks op r = false := by with_unfolding_all exact ff) : EW c (.Compare l [op] [r] pos) L H Q := EW.cmp h hm
@[reducible] def SubK2 (c : Cx) (e sl : Expr) (a : AV) (L : AL) (Q : AV → AH → Prop) : AV → AH → Prop := fun i H2 => SbW c e sl a i L H2 Q
@[reducible] def SubK (c : Cx) (e sl : Expr) (L : AL) (Q : AV → AH → Prop) : AV → AH → Prop := fun a H1 => EW c sl L H1 (SubK2 c e sl a L Q)
theorem d_sub {e sl : Expr} {pos : Pos} (h : EW c e L H (SubK c e sl L Q)) : EW c (.Subscript e sl pos) L H Q := EW.sub h
@[reducible] def GetK (c : Cx) (x : Str) (L : AL) (Q : AV → AH → Prop) : AV → AH → Prop := fun a H1 => GetW c a x L H1 Q
theorem d_attr {e : Expr} {x : Str} {pos : Pos} (h : EW c e L H (GetK c x L Q))
  (he : ∀ env, eval (.Attribute e x pos) env = (do let o ← eval e env; standAt pos.atName; let r ← holding [o] (getAttr o x true); letTemporaryGo e o r; pure r) := by intro _; with_unfolding_all rfl) : EW c (.Attribute e x pos) L H Q := EW.attr h (he _)
-- statements
@[reducible] def StoK (c : Cx) (x : Str) (L : AL) (Q : AF → AL → AH → Prop) : AV → AH → Prop := fun a H1 => StoW c x a L H1 (Q .next)
theorem d_assign {x : Str} {p pos : Pos} {e : Expr} {Q : AF → AL → AH → Prop} (h : EW c e L H (StoK c x L Q)) (hs : swapsWith e (some (.Name x p)) pos.line c.d.env = pure false := by with_unfolding_all exact pf) : ST c (.Assign [.Name x p] e pos) L H Q := ST.assign h hs
@[reducible] def AstK2 (c : Cx) (x : Str) (a : AV) (L : AL) (Q : AF → AL → AH → Prop) : AV → AH → Prop := fun b H2 => SetW c b x a L H2 (Q .next L)
@[reducible] def AstK (c : Cx) (ob : Expr) (x : Str) (L : AL) (Q : AF → AL → AH → Prop) : AV → AH → Prop := fun a H1 => EW c ob L H1 (AstK2 c x a L Q)
theorem d_assignA {ob e : Expr} {x : Str} {p pos : Pos} {Q : AF → AL → AH → Prop} (h : EW c e L H (AstK c ob x L Q)) (hs : swapsWith e (some (.Attribute ob x p)) pos.line c.d.env = pure false := by with_unfolding_all exact pf) : ST c (.Assign [.Attribute ob x p] e pos) L H Q := ST.assignA h hs
@[reducible] def AssK3 (c : Cx) (b a : AV) (L : AL) (Q : AF → AL → AH → Prop) : AV → AH → Prop := fun i H3 => SiW c b i a L H3 (Q .next L)
@[reducible] def AssK2 (c : Cx) (ix : Expr) (a : AV) (L : AL) (Q : AF → AL → AH → Prop) : AV → AH → Prop := fun b H2 => EW c ix L H2 (AssK3 c b a L Q)
@[reducible] def AssK (c : Cx) (ob ix : Expr) (L : AL) (Q : AF → AL → AH → Prop) : AV → AH → Prop := fun a H1 => EW c ob L H1 (AssK2 c ix a L Q)
theorem d_assignS {ob ix e : Expr} {p pos : Pos} {Q : AF → AL → AH → Prop} (h : EW c e L H (AssK c ob ix L Q)) (hs : swapsWith e (some (.Subscript ob ix p)) pos.line c.d.env = pure false := by with_unfolding_all exact pf) : ST c (.Assign [.Subscript ob ix p] e pos) L H Q := ST.assignS h hs
@[reducible] def TupK (c : Cx) (t : Expr) (L : AL) (Q : AF → AL → AH → Prop) : AV → AH → Prop := fun a H1 => AsW c t a L H1 (Q .next)
@[reducible] def RetK (L : AL) (Q : AF → AL → AH → Prop) : AV → AH → Prop := fun a H1 => Q (.ret a) L H1
theorem d_ret {e : Expr} {pos : Pos} {Q : AF → AL → AH → Prop} (h : EW c e L H (RetK L Q)) : ST c (.Return (some e) pos) L H Q := ST.ret h
@[reducible] def ExK (L : AL) (Q : AF → AL → AH → Prop) : AV → AH → Prop := fun _ H1 => Q .next L H1
theorem d_expr {e : Expr} {pos : Pos} {Q : AF → AL → AH → Prop} (h : EW c e L H (ExK L Q)) (hs : swapsWith e none pos.line c.d.env = pure false := by with_unfolding_all exact pf) : ST c (.Expr e pos) L H Q := ST.expr h hs
noncomputable def IfK (c : Cx) (body orelse : List Stmt) (L : AL) (Q : AF → AL → AH → Prop) : Bool → AH → Prop := fun b H1 => if b = true then SS c body L H1 Q else SS c orelse L H1 Q
theorem IfK.go {body orelse : List Stmt} {b : Bool} {Q : AF → AL → AH → Prop} (h : if b = true then SS c body L H Q else SS c orelse L H Q) : IfK c body orelse L Q b H := h
theorem d_iff {test : Expr} {body orelse : List Stmt} {pos : Pos} {Q : AF → AL → AH → Prop} (h : CB c test L H (IfK c body orelse L Q)) : ST c (.If test body orelse pos) L H Q := ST.iff h
noncomputable def IteK (c : Cx) (body orelse : Expr) (L : AL) (Q : AV → AH → Prop) : Bool → AH → Prop := fun b H1 => if b = true then EW c body L H1 Q else EW c orelse L H1 Q
theorem IteK.go {body orelse : Expr} {b : Bool} (h : if b = true then EW c body L H Q else EW c orelse L H Q) : IteK c body orelse L Q b H := h
theorem d_ite {test body orelse : Expr} {pos : Pos} (h : CB c test L H (IteK c body orelse L Q)) : EW c (.IfExp test body orelse pos) L H Q := EW.ite h
noncomputable def AeK (c : Cx) (es : List Expr) (as : List AV) (Q : AL → AH → Prop) : AL → AH → Prop := fun L' H' => AsEach c es as L' H' Q
theorem AeK.go {es : List Expr} {as : List AV} {Q : AL → AH → Prop} (h : AsEach c es as L H Q) : AeK c es as Q L H := h
theorem d_ae {e : Expr} {es : List Expr} {a : AV} {as : List AV} {Q : AL → AH → Prop} (h : AsW c e a L H (AeK c es as Q)) : AsEach c (e :: es) (a :: as) L H Q := h
theorem IfK.t {body orelse : List Stmt} {b : Bool} {Q : AF → AL → AH → Prop} (e : b = true) (h : SS c body L H Q) : IfK c body orelse L Q b H := if_t e h
theorem IfK.f {body orelse : List Stmt} {b : Bool} {Q : AF → AL → AH → Prop} (e : ¬ b = true) (h : SS c orelse L H Q) : IfK c body orelse L Q b H := if_f e h
theorem IteK.t {body orelse : Expr} {b : Bool} (e : b = true) (h : EW c body L H Q) : IteK c body orelse L Q b H := if_t e h
theorem IteK.f {body orelse : Expr} {b : Bool} (e : ¬ b = true) (h : EW c orelse L H Q) : IteK c body orelse L Q b H := if_f e h
-- calls
@[reducible] def CallK (c : Cx) (f : Value) (L : AL) (Q : AV → AH → Prop) : List AV → AH → Prop := fun as H2 => CallW c f as L H2 Q
theorem d_callB {x : Str} {np pos : Pos} {e : Expr} {es : List Expr} {id : String} (hk : c.ns.lookup x = some .globalImplicit) (hg : GIs c.d.w.params x (.builtin id)) (hp : (e :: es).all plainX = true) (h : ES c (e :: es) pos L H (CallK c (.builtin id) L Q)) (hd : (x == ("__debug__" : Str)) = false := by decide) :
  EW c (.Call (.Name x np) (e :: es) [] pos) L H Q :=
 EW.callB (EW.gB hk hg ⟨_, rfl, h⟩ hd) (backTo_any hp) (backTo_cons (by rw [List.all_cons, Bool.and_eq_true] at hp; exact hp.1))
theorem d_callT {x : Str} {np pos : Pos} {e : Expr} {es : List Expr} {id : String} (hk : c.ns.lookup x = some .globalImplicit) (hg : GIs c.d.w.params x (.type id)) (hp : (e :: es).all plainX = true) (h : ES c (e :: es) pos L H (CallK c (.type id) L Q)) (hd : (x == ("__debug__" : Str)) = false := by decide) :
  EW c (.Call (.Name x np) (e :: es) [] pos) L H Q :=
 EW.callT (EW.gT hk hg ⟨_, rfl, h⟩ hd) (backTo_any hp) (backTo_cons (by rw [List.all_cons, Bool.and_eq_true] at hp; exact hp.1))
theorem d_call {x : Str} {np pos : Pos} {e : Expr} {es : List Expr} {fa : Addr} (hk : c.ns.lookup x = some .globalImplicit) (hg : GIs c.d.w.params x (.ref fa)) (hq : keepIn (KP c) (.ref fa) = true) (hp : (e :: es).all plainX = true) (h : ES c (e :: es) pos L H (CallK c (.ref fa) L Q)) (hd : (x == ("__debug__" : Str)) = false := by decide) :
  EW c (.Call (.Name x np) (e :: es) [] pos) L H Q :=
 EW.call (EW.gR hk hg ⟨_, rfl, hq, h⟩ hd) (by rw [backTo_any hp]; rfl) (starEach_cons (by rw [List.all_cons, Bool.and_eq_true] at hp; exact hp.1))
theorem d_call0 {x : Str} {np pos : Pos} {fa : Addr} (hk : c.ns.lookup x = some .globalImplicit) (hg : GIs c.d.w.params x (.ref fa)) (hq : keepIn (KP c) (.ref fa) = true) (h : CallW c (.ref fa) [] L H Q) (hd : (x == ("__debug__" : Str)) = false := by decide) :
  EW c (.Call (.Name x np) [] [] pos) L H Q := EW.call0 (EW.gR hk hg ⟨_, rfl, hq, h⟩ hd)
@[reducible] def AppK (c : Cx) (f : Value) (a : AV) (L : AL) (Q : AV → AH → Prop) : List AV → AH → Prop := fun as H2 => CallW c f (a :: as) L H2 Q
noncomputable def MetK (c : Cx) (T id : String) (es : List Expr) (pos : Pos) (L : AL) (Q : AV → AH → Prop) : AV → AH → Prop := fun a H1 => TyIs T a H1 ∧ ES c es pos L H1 (AppK c (.builtin id) a L Q)
theorem MetK.go {T id : String} {es : List Expr} {pos : Pos} {a : AV} (h : TyIs T a H ∧ ES c es pos L H (AppK c (.builtin id) a L Q)) : MetK c T id es pos L Q a H := h
theorem d_meth {ob e : Expr} {es : List Expr} {name : Str} {apos pos : Pos} {T id : String} (hp : PlainAttrs T) (hs : Slot T name id) (ht : typeOf (.builtin id) = pure (.type "method_descriptor"))
  (h : EW c ob L H (MetK c T id (e :: es) pos L Q))
  (h1 : ∀ env, attributeBase ob name env (eval ob env) = eval ob env := by intro _; with_unfolding_all rfl)
  (h2 : ((e :: es).all plainX && decide ((e :: es).length < 30)) = true := by with_unfolding_all exact tt)
  (h3 : (apos.endLine == pos.line) = true := by with_unfolding_all exact tt) : EW c (.Call (.Attribute ob name apos) (e :: es) [] pos) L H Q := by
 rw [Bool.and_eq_true] at h2
 exact EW.methB hp hs ht h (h1 _) (by rw [backTo_all h2.1]; exact h2.2) h3 (backTo_any h2.1) (backTo_cons (by have := h2.1; rw [List.all_cons, Bool.and_eq_true] at this; exact this.1))
theorem d_append {ob e : Expr} {es : List Expr} {apos pos : Pos} (h : EW c ob L H (MetK c "list" "list.append" (e :: es) pos L Q))
  (h1 : ∀ env, attributeBase ob "append" env (eval ob env) = eval ob env := by intro _; with_unfolding_all rfl)
  (h2 : ((e :: es).all plainX && decide ((e :: es).length < 30)) = true := by with_unfolding_all exact tt)
  (h3 : (apos.endLine == pos.line) = true := by with_unfolding_all exact tt) : EW c (.Call (.Attribute ob "append" apos) (e :: es) [] pos) L H Q := d_meth F.plainAttrs_list F.slot_list_append F.type_list_append h h1 h2 h3
end
theorem bind1 {c : Cx} {F : FuncData} {kws : List (Str × Value)} {ns : List Str} {a : AV} {vs : List Value} (hv : VRels [a] vs) (h : ∀ v (s : Shared), (KP c).In s.heap → BindsTo s F ⟨[v], kws⟩ (ns.zip [v])) : ∃ bv, VRels [a] bv ∧ ∀ s : Shared, (KP c).In s.heap → BindsTo s F ⟨vs, kws⟩ (ns.zip bv) := by
 obtain ⟨v, _, rfl, h1, hv⟩ := hv.cons_inv
 cases hv
 exact ⟨[v], .cons h1 .nil, h v⟩
theorem bind2 {c : Cx} {F : FuncData} {kws : List (Str × Value)} {ns : List Str} {a b : AV} {vs : List Value} (hv : VRels [a, b] vs) (h : ∀ v w (s : Shared), (KP c).In s.heap → BindsTo s F ⟨[v, w], kws⟩ (ns.zip [v, w])) : ∃ bv, VRels [a, b] bv ∧ ∀ s : Shared, (KP c).In s.heap → BindsTo s F ⟨vs, kws⟩ (ns.zip bv) := by
 obtain ⟨v, _, rfl, h1, hv⟩ := hv.cons_inv
 obtain ⟨w, _, rfl, h2, hv⟩ := hv.cons_inv
 cases hv
 exact ⟨[v, w], .cons h1 (.cons h2 .nil), h v w⟩
theorem bind3 {c : Cx} {F : FuncData} {kws : List (Str × Value)} {ns : List Str} {a b d : AV} {vs : List Value} (hv : VRels [a, b, d] vs) (h : ∀ v w x (s : Shared), (KP c).In s.heap → BindsTo s F ⟨[v, w, x], kws⟩ (ns.zip [v, w, x])) : ∃ bv, VRels [a, b, d] bv ∧ ∀ s : Shared, (KP c).In s.heap → BindsTo s F ⟨vs, kws⟩ (ns.zip bv) := by
 obtain ⟨v, _, rfl, h1, hv⟩ := hv.cons_inv
 obtain ⟨w, _, rfl, h2, hv⟩ := hv.cons_inv
 obtain ⟨x, _, rfl, h3, hv⟩ := hv.cons_inv
 cases hv
 exact ⟨[v, w, x], .cons h1 (.cons h2 (.cons h3 .nil)), h v w x⟩
end
set_option linter.unusedVariables false
set_option maxRecDepth 100000
set_option maxHeartbeats 4000000
local macro_rules | `(tactic| walk_at "lk") => `(tactic| first | with_reducible assumption | with_reducible exact lset_same _ _ _ | ((with_reducible refine lk_skip (by decide) ?_); walk_at "lk") | ((with_reducible refine (lset_ne (by decide)).trans ?_); walk_at "lk") | with_unfolding_all rfl)
local macro_rules | `(tactic| walk_at "hk") => `(tactic| first | with_reducible assumption | with_reducible exact hset_same _ _ _ | ((with_reducible refine hset_old (by with_reducible assumption) ?_); walk_at "hk") | ((with_reducible refine HLe.get (by with_reducible assumption) ?_); walk_at "hk"))
local macro_rules | `(tactic| walk_at "le") => `(tactic| first | with_reducible assumption | with_reducible exact HLe.rfl | ((with_reducible refine HLe.mut (by with_reducible assumption) ?_); walk_at "le") | ((with_reducible refine HLe.put (by with_reducible assumption) ?_); walk_at "le"))
local macro_rules | `(tactic| walk_at "gl") => `(tactic| with_reducible first | exact n_law_word _ | exact n_law_rows _ | exact n_law_records _ | exact n_law_held _ | exact n_law_lines _ | exact n_law_pairs _ | exact n_law_pages _ | exact n_law_written _ | exact nquote _ | exact nsplit _ | exact nshlex _ | exact nStringIO _ | exact nBytesIO _ | exact nEntry _ | exact nmerge_entries _ | exact nheappush _ | exact nheappop _ | exact n_siftdown _ | exact n_siftup _ | exact n_index _ | exact n_find_unsafe _ | exact n_deque _ | exact b_chr _ | exact b_len _ | exact b_isinstance _ | exact b_range _ | exact b_str _ | exact b_list _ | exact b_type _ | exact b_int _ | exact b_map _ | exact b_filter _ | exact b_set _ | exact b_object _)
local macro_rules | `(tactic| walk_at "kp") => `(tactic| with_reducible first | exact kp_836 _ | exact kp_843 _ | exact kp_848 _ | exact kp_855 _ | exact kp_862 _ | exact kp_869 _ | exact kp_874 _ | exact kp_879 _ | exact kp_829 _ | exact kp_821 _ | exact kp_809 _ | exact kp_674 _ | exact kp_82 _ | exact kp_93 _ | exact kp_100 _ | exact kp_107 _ | exact kp_114 _ | exact kp_121 _ | exact kp_140 _)
local macro_rules | `(tactic| walk_at "f") => `(tactic| first
 | (with_reducible first | refine SS.one ?_)
 | (with_reducible first | refine Then.next ?_ | refine Then.ret ?_ | refine Then.cont ?_ | refine IfK.go ?_ | refine IteK.go ?_ | refine AeK.go ?_ | refine MetK.go ?_)
 | (with_reducible first | refine d_seq ?_ | refine SS.nil ?_ | refine d_assign ?_ | refine d_ret ?_ | refine d_iff ?_ | refine d_expr ?_ | refine d_assignA ?_ | refine d_assignS ?_ | refine ST.assignT ?_ | refine ST.brk ?_ | refine ST.cont ?_)
 | (with_reducible first | refine d_esi ?_ | refine d_ess ?_ | refine d_esn (by with_unfolding_all exact kl) (by walk_at "lk") ?_ | refine ES.nil ?_ | refine d_es (by with_unfolding_all exact tt) ?_ | refine EW.cInt ?_ | refine EW.cS ?_ | refine EW.cNone ?_ | refine EW.cBool ?_ | refine d_bin ?_ | refine d_cmp ?_ | refine d_ccmp ?_ | refine d_ite ?_ | refine d_sub ?_ | refine d_attr ?_ | refine d_list ?_ | refine d_tup ?_ | refine CB.not ?_ | refine CB.and2 ?_ | refine CB.or2 ?_)
 | (with_reducible first | refine FinP.ret (by with_reducible assumption) ?_ | refine FinP.next (by with_reducible assumption) ?_ | refine Shut.out (by with_reducible assumption) ?_ | refine LoopP.next (by with_reducible assumption) ?_ | refine LoopP.cont (by with_reducible assumption) ?_ | refine LoopP.brk (by with_reducible assumption) ?_ | refine LoopP.ret (by with_reducible assumption) ?_ | refine OutC.yes (by with_reducible assumption) ?_ | refine OutC.no (by with_reducible assumption) ?_ | refine StoW.loc (by with_unfolding_all exact kl) ?_ | refine AsW.name ?_ | refine OpW.addI ?_ | refine OpW.subI ?_ | refine OpW.modI (by decide) ?_ | refine OpW.divI (by decide) (by decide) ?_ | refine CmpW.ltI ?_ | refine CmpW.gtI ?_ | refine CmpW.geI ?_ | refine CmpW.eqI ?_ | refine CmpW.neI ?_ | refine CmpW.eqSS ?_ | refine CmpW.neSS ?_)
 | (with_reducible first | refine d_callB (by with_unfolding_all exact kg) (by walk_at "gl") (by with_unfolding_all exact tt) ?_ | refine d_callT (by with_unfolding_all exact kg) (by walk_at "gl") (by with_unfolding_all exact tt) ?_ | refine d_call (by with_unfolding_all exact kg) (by walk_at "gl") (by walk_at "kp") (by with_unfolding_all exact tt) ?_ | refine d_call0 (by with_unfolding_all exact kg) (by walk_at "gl") (by walk_at "kp") ?_ | refine d_append ?_ | refine EW.name (by with_unfolding_all exact kl) (by walk_at "lk") ?_)
 | (with_reducible first | refine EW.gR (by with_unfolding_all exact kg) (by walk_at "gl") ?_ | refine EW.gT (by with_unfolding_all exact kg) (by walk_at "gl") ?_))
section
set_option maxHeartbeats 4000000
noncomputable def chs : List W := [lit "", lit "a", lit " ", lit "'", lit "\"", lit "\\", lit "#", lit "\n", lit "A", lit "*"]
noncomputable def pick (v k : Int) : W := chs.getD ((v.fdiv k).fmod 10).toNat []
noncomputable def tens : List Int := [1, 10, 100]
noncomputable def wAcc (v : Int) : Nat → W
 | 0 => []
 | i + 1 => wAcc v i ++ pick v (tens.getD i 1)
noncomputable def wordOf (v : Int) : W := wAcc v 3 ++ (if v.fdiv 1000 != 0 then [((v.fdiv 1000).fmod 1114112).toNat] else [])
theorem pick_len (v k : Int) : (pick v k).length ≤ 1 := by
 unfold pick
 generalize ((v.fdiv k).fmod 10).toNat = n
 rcases Nat.lt_or_ge n 10 with h | h
 ·revert n; decide +kernel
 ·rw [List.getD_eq_getElem?_getD, List.getElem?_eq_none (by exact h)]; decide
theorem wAcc_len (v : Int) : ∀ i, (wAcc v i).length ≤ i
 | 0 => Nat.zero_le _
 | i + 1 => by unfold wAcc; rw [List.length_append]; have := wAcc_len v i; have := pick_len v (tens.getD i 1); omega
theorem f836 (P) : (Kf P).lookup 836 = some (fnO (topS 34) (o "_law_word") .none (.str (o "law_oy0424_01") 1358) (.ref 835)) := rfl
theorem g836 (P) : codeIn (Kf P) (.ref 835) (o "_law_word") = true := rfl
section
variable {c : Cx} {L : AL} {H : AH}
theorem fmod_range (a : Int) {n : Int} (h : 0 < n) : 0 ≤ a.fmod n ∧ a.fmod n < n := ⟨Int.fmod_nonneg_of_pos a h, Int.fmod_lt_of_pos a h⟩
theorem pick_get (v k : Int) : ([AV.str (S (lit "")), .str (S (lit "a")), .str (S (lit " ")), .str (S (lit "'")), .str (S (lit "\"")), .str (S (lit "\\")), .str (S (lit "#")), .str (S (lit "\n")), .str (S (lit "A")), .str (S (lit "*"))])[((v.fdiv k).fmod 10).toNat]? = some (.str (S (pick v k))) := by
 unfold pick
 have := fmod_range (v.fdiv k) (n := 10) (by decide)
 generalize he : ((v.fdiv k).fmod 10).toNat = n
 have hn : n < 10 := he ▸ (Int.toNat_lt this.1).mpr this.2
 clear he this
 rcases n with _ | _ | _ | _ | _ | _ | _ | _ | _ | _ | n <;> first | rfl | exact absurd hn (Nat.not_lt.mpr (Nat.le_add_left 10 n))
theorem c836 {v : Int} (hroom : 1 ≤ c.d.room) : CodeW c (.ref 836) [.int v] [] [] L H (fun a H' => HLe H H' ∧ a = .str (S (wordOf v))) := by
 refine CodeW.enterP (ns := [o "v"]) (bas := [.int v]) (f836 _) (g836 _) hroom (fun vs ws hv hw => ?_) (by rfl) (by rfl) (by rfl) (by rfl) (by rfl) fun d hr _ Pf hPf => ?_
 ·cases hv with
  | cons h t =>
   cases t
   exact ⟨[_], .cons h .nil, fun s _ => BindsTo.of_eq (by rfl)⟩
 conv in fBody _ => whnf
 repeat walk_at "f"
 refine ST.forP ?_
 repeat walk_at "f"
 refine ⟨by decide, fun t ht => ⟨_, _, IterW.tup (by walk_at "hk"), fun i L' H' => L' (o "word") = some (.str (S (wAcc v i))) ∧ L' (o "v") = some (.int v) ∧ HLe H H' ∧ H' t = some (.tup [.int 1, .int 10, .int 100]), ⟨by walk_at "lk", by walk_at "lk", by walk_at "le", by walk_at "hk"⟩, fun i L H h => h.2.2.2, fun i x L' H' hx Pk hPk ⟨hw, hv, hle, ht'⟩ => ?_, fun L' H' ⟨hw, hv, hle, _⟩ => ?_⟩⟩
 ·have hk : x = .int (tens.getD i 1) ∧ tens.getD i 1 ≠ 0 ∧ (tens.getD i 1).natAbs.log2 < 9000 := by
   rcases i with _ | _ | _ | i
   ·cases hx; exact ⟨rfl, by decide, by decide⟩
   ·cases hx; exact ⟨rfl, by decide, by decide⟩
   ·cases hx; exact ⟨rfl, by decide, by decide⟩
   ·cases hx
  obtain ⟨rfl, hk0, hk1⟩ := hk
  repeat walk_at "f"
  refine ⟨by decide, fun a ha => ?_⟩
  repeat walk_at "f"
  refine OpW.divI hk0 hk1 ?_
  repeat walk_at "f"
  refine SbW.list (by walk_at "hk") (fmod_range _ (by decide)).1 (pick_get _ _) (by decide) ?_
  refine OpW.addSS (by exact Nat.le_trans (Nat.add_le_add (wAcc_len v i) (pick_len v (tens.getD i 1))) (Nat.le_trans (List.getElem?_eq_some_iff.mp hx).1 (by decide))) ?_
  repeat walk_at "f"
  exact ⟨trivial, by walk_at "lk", by walk_at "lk", by walk_at "le", by walk_at "hk"⟩
 ·repeat walk_at "f"
  split
  ·rename_i hne
   repeat walk_at "f"
   repeat walk_at "f"
   have hb := fmod_range (v.fdiv 1000) (n := 1114112) (by decide)
   refine CallW.chr hb.1 (by omega) ?_
   refine OpW.addSS (by have := wAcc_len v 3; show (wAcc v 3).length + 1 ≤ _; omega) ?_
   repeat walk_at "f"
   exact ⟨hle, by unfold wordOf; rw [if_pos hne]; rfl⟩
  ·rename_i hne
   repeat walk_at "f"
   refine OpW.addSS (by have := wAcc_len v 3; show (wAcc v 3).length + 0 ≤ _; omega) ?_
   repeat walk_at "f"
   exact ⟨hle, by unfold wordOf; rw [if_neg hne]; rfl⟩
end
end
section
set_option maxHeartbeats 4000000
noncomputable abbrev ItA (α : Type) := List Int × α
noncomputable abbrev It := ItA AV
theorem par_lt {i : Nat} (h : 0 < i) : (i - 1) / 2 < i := Nat.lt_of_le_of_lt (Nat.div_le_self ..) (Nat.pred_lt (Nat.ne_of_gt h))
theorem lt1 {p : Nat} : p < 2 * p + 1 := Nat.lt_succ_of_le (Nat.le_mul_of_pos_left p (by decide))
theorem lt2 {p : Nat} : p < 2 * p + 2 := Nat.lt_succ_of_lt lt1
theorem sub_lt' {n a b : Nat} (h : b < n) (k : a < b) : n - b < n - a := Nat.sub_lt_sub_left (Nat.lt_trans k h) k
theorem i1 {p : Nat} : (0 : Int) ≤ 2 * (p : Int) + 1 := Int.natCast_nonneg (2 * p + 1)
theorem i2 {p : Nat} : (0 : Int) ≤ 2 * (p : Int) + 1 + 1 := Int.natCast_nonneg (2 * p + 1 + 1)
theorem n1 {p : Nat} : ((2 : Int) * p + 1).toNat = 2 * p + 1 := rfl
theorem n2 {p : Nat} : ((2 : Int) * p + 1 + 1).toNat = 2 * p + 2 := rfl
theorem c1 {p : Nat} : ((2 * p + 1 : Nat) : Int) = (2 : Int) * p + 1 := rfl
theorem c2 {p : Nat} : ((2 * p + 2 : Nat) : Int) = (2 : Int) * p + 1 + 1 := rfl
theorem d1 {p n : Nat} (h : (2 : Int) * p + 1 < n) : 2 * p + 1 < n := Int.ofNat_lt.mp h
theorem d2 {p n : Nat} (h : (2 : Int) * p + 1 + 1 < n) : 2 * p + 2 < n := Int.ofNat_lt.mp h
theorem d1' {p n : Nat} (h : 2 * p + 1 < n) : (2 : Int) * p + 1 < n := Int.ofNat_lt.mpr h
theorem d2' {p n : Nat} (h : 2 * p + 2 < n) : (2 : Int) * p + 1 + 1 < n := Int.ofNat_lt.mpr h
noncomputable def sd {α : Type} (new : ItA α) (pos : Nat) (xs : List (ItA α)) : List (ItA α) :=
 if h : 0 < pos then
  match xs[(pos - 1) / 2]? with
  | some p => if lexLt new.1 p.1 then sd new ((pos - 1) / 2) (xs.set pos p) else xs.set pos new
  | none => xs
 else xs.set pos new
termination_by pos
decreasing_by exact par_lt h
noncomputable def su {α : Type} (new : ItA α) (pos : Nat) (xs : List (ItA α)) : List (ItA α) :=
 if h : 2 * pos + 1 < xs.length then
  if h' : 2 * pos + 2 < xs.length ∧ lexLt (xs[2 * pos + 1].1) ((xs[2 * pos + 2]?.getD new).1) = false then su new (2 * pos + 2) (xs.set pos (xs[2 * pos + 2]?.getD new))
  else su new (2 * pos + 1) (xs.set pos xs[2 * pos + 1])
 else sd new pos (xs.set pos new)
termination_by xs.length - pos
decreasing_by
 ·simp only [List.length_set]; exact sub_lt' h'.1 lt2
 ·simp only [List.length_set]; exact sub_lt' h lt1
theorem hset_self {H : AH} {a : Addr} {o : AObj} (h : H a = some o) : hset H a o = H := by
 funext b
 by_cases q : b = a
 ·rw [q, hset_same, h]
 ·rw [hset_ne q]
theorem hset_hset (H : AH) (a : Addr) (x y : AObj) : hset (hset H a x) a y = hset H a y := by
 funext b
 by_cases q : b = a
 ·rw [q, hset_same, hset_same]
 ·rw [hset_ne q, hset_ne q, hset_ne q]
theorem KeyOf.set {H : AH} {hp : Addr} {xs : List AV} {o : AObj} {v : AV} {k : List Int} (hl : H hp = some (.list xs)) (h : KeyOf H v k) : KeyOf (hset H hp o) v k := by
 obtain ⟨t, a, r, rfl, ht, ha⟩ := h
 exact ⟨t, a, r, rfl, (hset_ne fun q => by rw [q, hl] at ht; cases ht).trans ht, (hset_ne fun q => by rw [q, hl] at ha; cases ha).trans ha⟩
noncomputable def keys {α : Type} (xs : List (ItA α)) : List (List Int) := xs.map (·.1)
noncomputable def vals (xs : List It) : List AV := xs.map (·.2)
theorem vals_get {xs : List It} {i : Nat} {p : It} (h : xs[i]? = some p) : (vals xs)[i]? = some p.2 := by unfold vals; rw [List.getElem?_map, h]; rfl
theorem vals_set (xs : List It) (i : Nat) (p : It) : (vals xs).set i p.2 = vals (xs.set i p) := by unfold vals; rw [List.map_set]
theorem vals_len (xs : List It) : (vals xs).length = xs.length := List.length_map _
theorem vl {xs : List It} (h : xs.length ≤ 100000) : (vals xs).length ≤ 1000000 := by rw [vals_len]; exact Nat.le_trans h (by decide)
theorem vlt {xs : List It} {n : Nat} (h : n < xs.length) : (n : Int) < ((vals xs).length : Int) := by rw [vals_len]; exact Int.ofNat_lt.mpr h
theorem f114 (P) : (Kf P).lookup 114 = some (fnO (topS 9) (o "_siftdown") .none (.str (o "cpy313.heapq") 399) (.ref 113)) := rfl
theorem g114 (P) : codeIn (Kf P) (.ref 113) (o "_siftdown") = true := rfl
theorem set_swap_nodup {α : Type} {xs : List (ItA α)} {i j : Nat} {p new : ItA α} (hij : i ≠ j) (hj : xs[j]? = some p) (hi : i < xs.length) (h : (keys (xs.set i new)).Nodup) : (keys ((xs.set i p).set j new)).Nodup ∧ ((xs.set i p).set j new).Perm (xs.set i new) := by
 have hjl : j < (xs.set i new).length := by rw [List.length_set]; exact (List.getElem?_eq_some_iff.mp hj).1
 have hil : i < (xs.set i new).length := by rw [List.length_set]; exact hi
 have P := List.set_set_perm hil hjl
 have e1 : (xs.set i new)[j] = p := by rw [List.getElem_set_ne hij]; exact (List.getElem?_eq_some_iff.mp hj).2
 have e2 : (xs.set i new)[i] = new := List.getElem_set_self hil
 rw [e1, e2, List.set_set] at P
 exact ⟨(P.map _).nodup_iff.mpr h, P⟩
theorem set_same {α : Type} {xs : List (ItA α)} {i : Nat} {p : ItA α} (h : xs[i]? = some p) : xs.set i p = xs := by
 obtain ⟨hi, e⟩ := List.getElem?_eq_some_iff.mp h
 rw [← e]; exact List.set_getElem_self hi
theorem ne_of_nodup {α : Type} {xs : List (ItA α)} {i j : Nat} {p q : ItA α} (h : (keys xs).Nodup) (hij : i ≠ j) (hi : xs[i]? = some p) (hj : xs[j]? = some q) : p.1 ≠ q.1 := fun e => by
 have hi' : (keys xs)[i]? = some p.1 := by unfold keys; rw [List.getElem?_map, hi]; rfl
 have hj' : (keys xs)[j]? = some p.1 := by unfold keys; rw [List.getElem?_map, hj, e]; rfl
 obtain ⟨h1, e1⟩ := List.getElem?_eq_some_iff.mp hi'
 obtain ⟨h2, e2⟩ := List.getElem?_eq_some_iff.mp hj'
 exact hij ((List.getElem_inj h).mp (e1.trans e2.symm))
inductive I114 (H : AH) (hp : Addr) (new : It) (r : List It) (n : Nat) (L' : AL) (H' : AH) : Prop
 | mk' (xs : List It) (e1 : L' (o "pos") = some (.int n)) (e2 : L' (o "heap") = some (.ref hp)) (e3 : L' (o "startpos") = some (.int 0)) (e4 : L' (o "newitem") = some new.2) (eH : H' = hset H hp (.list (vals xs)))
  (hk : ∀ p ∈ xs, KeyOf H p.2 p.1) (hkn : KeyOf H new.2 new.1) (hn : n < xs.length) (hz : xs.length ≤ 100000) (hd : (keys (xs.set n new)).Nodup) (hf : sd new n xs = r)
inductive I121 (H : AH) (hp : Addr) (new : It) (k : Nat) (r : List It) (n : Nat) (L' : AL) (H' : AH) : Prop
 | mk' (xs : List It) (pos : Nat) (e1 : L' (o "pos") = some (.int pos)) (e2 : L' (o "childpos") = some (.int (2 * pos + 1))) (e3 : L' (o "heap") = some (.ref hp)) (e4 : L' (o "startpos") = some (.int 0)) (e5 : L' (o "endpos") = some (.int k)) (e6 : L' (o "newitem") = some new.2) (eH : H' = hset H hp (.list (vals xs)))
  (hk : ∀ p ∈ xs, KeyOf H p.2 p.1) (hkn : KeyOf H new.2 new.1) (hn : pos < xs.length) (hz : xs.length = k) (en : n = xs.length - pos) (hd : (keys (xs.set pos new)).Nodup) (hf : su new pos xs = r)
section
variable {c : Cx} {L : AL} {H : AH}
theorem c114 {hp : Addr} {its : List It} {pos : Nat} {new : It} (hroom : 1 ≤ c.d.room) (hl : H hp = some (.list (vals its))) (hk : ∀ p ∈ its, KeyOf H p.2 p.1) (hn : its[pos]? = some new) (hd : (keys its).Nodup) (hz : its.length ≤ 100000) :
  CodeW c (.ref 114) [.ref hp, .int 0, .int pos] [] [] L H (fun a H' => a = .none ∧ H' = hset H hp (.list (vals (sd new pos its)))) := by
 refine CodeW.enterP (ns := [o "heap", o "startpos", o "pos"]) (bas := [.ref hp, .int 0, .int pos]) (f114 _) (g114 _) hroom (fun vs ws hv hw => ?_) (by rfl) (by rfl) (by rfl) (by rfl) (by rfl) fun d hr _ Pf hPf => ?_
 ·exact bind3 hv fun _ _ _ _ _ => BindsTo.of_eq (by rfl)
 conv in fBody _ => whnf
 have hpos : pos < its.length := (List.getElem?_eq_some_iff.mp hn).1
 repeat walk_at "f"
 refine SbW.list hl (Int.natCast_nonneg _) (by simpa using vals_get hn) (by first | exact vl hz' | exact vl hz | (rw [vals_len]; omega)) ?_
 repeat walk_at "f"
 refine ST.whileIn (I114 H hp new (sd new pos its)) pos
  ⟨its, by walk_at "lk", by walk_at "lk", by walk_at "lk", by walk_at "lk", (hset_self hl).symm, hk, hk _ (List.mem_of_getElem? hn), hpos, hz, by rw [set_same hn]; exact hd, rfl⟩ ?_
 rintro n L' _ Pk hPk ⟨xs, e1, e2, e3, e4, rfl, hk', hkn, hn', hz', hd', hf⟩
 repeat walk_at "f"
 split
 ·rename_i hc
  have h0 : 0 < n := by simpa using hc
  have ep : ((n : Int) - 1) / 2 = (((n - 1) / 2 : Nat) : Int) := half h0
  have hlt : (n - 1) / 2 < xs.length := Nat.lt_of_le_of_lt (Nat.le_trans (Nat.div_le_self ..) (Nat.sub_le ..)) hn'
  obtain ⟨par, hpar⟩ : ∃ p, xs[(n - 1) / 2]? = some p := ⟨_, List.getElem?_eq_getElem hlt⟩
  have hne : n ≠ (n - 1) / 2 := Nat.ne_of_gt (par_lt h0)
  have hkp : KeyOf H par.2 par.1 := hk' _ (List.mem_of_getElem? hpar)
  repeat walk_at "f"
  refine OpW.shrI (Int.sub_nonneg_of_le (Int.ofNat_le.mpr h0)) ?_
  rw [ep]
  repeat walk_at "f"
  refine SbW.list (hset_same _ _ _) (Int.natCast_nonneg _) (by exact vals_get hpar) (by first | exact vl hz' | exact vl hz | (rw [vals_len]; omega)) ?_
  repeat walk_at "f"
  have hnk : new.1 ≠ par.1 := ne_of_nodup hd' hne (by rw [List.getElem?_set_self hn']) (by rw [List.getElem?_set_ne hne]; exact hpar)
  refine CmpW.ltKey (hkn.set hl) (hkp.set hl) hnk ?_
  repeat walk_at "f"
  split
  ·rename_i hlx
   repeat walk_at "f"
   refine SiW.list (hset_same _ _ _) (Int.natCast_nonneg _) (vlt hn') (vl hz') ?_
   rw [hset_hset, Int.toNat_natCast, vals_set]
   repeat walk_at "f"
   obtain ⟨q1, q2⟩ := set_swap_nodup hne hpar hn' hd'
   refine ⟨(n - 1) / 2, par_lt h0, xs.set n par, by walk_at "lk", by walk_at "lk", by walk_at "lk", by walk_at "lk", rfl, fun p hp => ?_, hkn, by rw [List.length_set]; exact hlt, by rw [List.length_set]; exact hz', q1, ?_⟩
   ·rcases List.mem_or_eq_of_mem_set hp with h | rfl
    ·exact hk' _ h
    ·exact hkp
   ·rw [← hf, sd.eq_def new n xs, dif_pos h0, hpar]
    exact (if_pos hlx).symm
  ·rename_i hlx
   repeat walk_at "f"
   refine SiW.list (hset_same _ _ _) (Int.natCast_nonneg _) (vlt hn') (vl hz') ?_
   rw [hset_hset, Int.toNat_natCast, vals_set]
   repeat walk_at "f"
   refine ⟨rfl, ?_⟩
   rw [← hf, sd.eq_def new n xs, dif_pos h0, hpar]
   show _ = hset H hp (.list (vals (if _ then _ else _)))
   rw [if_neg hlx]
 ·rename_i hc
  have h0 : ¬ 0 < n := by simpa using hc
  repeat walk_at "f"
  refine SiW.list (hset_same _ _ _) (Int.natCast_nonneg _) (vlt hn') (vl hz') ?_
  rw [hset_hset, Int.toNat_natCast, vals_set]
  repeat walk_at "f"
  refine ⟨rfl, ?_⟩
  rw [← hf, sd.eq_def new n xs, dif_neg h0]
theorem f121 (P) : (Kf P).lookup 121 = some (fnO (topS 10) (o "_siftup") .none (.str (o "cpy313.heapq") 399) (.ref 120)) := rfl
theorem g121 (P) : codeIn (Kf P) (.ref 120) (o "_siftup") = true := rfl
theorem c121 {hp : Addr} {its : List It} {new : It} (hroom : 2 ≤ c.d.room) (hl : H hp = some (.list (vals its))) (hk : ∀ p ∈ its, KeyOf H p.2 p.1) (hn : its[0]? = some new) (hd : (keys its).Nodup) (hz : its.length ≤ 100000) :
  CodeW c (.ref 121) [.ref hp, .int 0] [] [] L H (fun a H' => a = .none ∧ H' = hset H hp (.list (vals (su new 0 its)))) := by
 refine CodeW.enterP (ns := [o "heap", o "pos"]) (bas := [.ref hp, .int 0]) (f121 _) (g121 _) (by first | exact room_1 hroom tt | omega) (fun vs ws hv hw => ?_) (by rfl) (by rfl) (by rfl) (by rfl) (by rfl) fun d hr _ Pf hPf => ?_
 ·exact bind2 hv fun _ _ _ _ => BindsTo.of_eq (by rfl)
 conv in fBody _ => whnf
 have hpos : 0 < its.length := (List.getElem?_eq_some_iff.mp hn).1
 repeat walk_at "f"
 repeat walk_at "f"
 refine CallW.lenL hl (by first | exact vl hz' | exact vl (hz'.symm ▸ hz) | exact vl hz | (rw [vals_len]; omega)) ?_
 repeat walk_at "f"
 refine SbW.list hl (Int.le_refl 0) (vals_get hn) (by first | exact vl hz' | exact vl (hz'.symm ▸ hz) | exact vl hz | (rw [vals_len]; omega)) ?_
 repeat walk_at "f"
 refine OpW.mulI (.of_left (by decide +kernel)) ?_
 repeat walk_at "f"
 refine ST.whileIn (I121 H hp new its.length (su new 0 its)) its.length
  ⟨its, 0, by walk_at "lk", by walk_at "lk", by walk_at "lk", by walk_at "lk", by rw [← vals_len]; walk_at "lk", by walk_at "lk", (hset_self hl).symm, hk, hk _ (List.mem_of_getElem? hn), hpos, rfl, rfl, by rw [set_same hn]; exact hd, rfl⟩ ?_
 rintro n L' _ Pk hPk ⟨xs, pos, e1, e2, e3, e4, e5, e6, rfl, hk', hkn, hn', hz', rfl, hd', hf⟩
 repeat walk_at "f"
 split
 ·rename_i hc
  have h1 : 2 * pos + 1 < xs.length := by rw [hz']; exact d1 (of_decide_eq_true hc)
  repeat walk_at "f"
  obtain ⟨lp, hlp⟩ : ∃ p, xs[2 * pos + 1]? = some p := ⟨_, List.getElem?_eq_getElem h1⟩
  have elp : xs[2 * pos + 1] = lp := (List.getElem?_eq_some_iff.mp hlp).2
  split
  ·rename_i hc2
   have h2 : 2 * pos + 2 < xs.length := by rw [hz']; exact d2 (of_decide_eq_true hc2)
   obtain ⟨rp, hrp⟩ : ∃ p, xs[2 * pos + 2]? = some p := ⟨_, List.getElem?_eq_getElem h2⟩
   repeat walk_at "f"
   refine SbW.list (hset_same _ _ _) i1 (by rw [n1]; exact vals_get hlp) (by first | exact vl hz' | exact vl (hz'.symm ▸ hz) | exact vl hz | (rw [vals_len]; omega)) ?_
   repeat walk_at "f"
   refine SbW.list (hset_same _ _ _) i2 (by rw [n2]; exact vals_get hrp) (by first | exact vl hz' | exact vl (hz'.symm ▸ hz) | exact vl hz | (rw [vals_len]; omega)) ?_
   refine CmpW.ltKey ((hk' _ (List.mem_of_getElem? hlp)).set hl) ((hk' _ (List.mem_of_getElem? hrp)).set hl) (ne_of_nodup hd' (i := 2 * pos + 1) (j := 2 * pos + 2) (Nat.ne_of_lt (Nat.lt_succ_self _)) (by rw [List.getElem?_set_ne (by omega)]; exact hlp) (by rw [List.getElem?_set_ne (by omega)]; exact hrp)) ?_
   cases hlx : lexLt lp.1 rp.1
   ·repeat walk_at "f"
    first | with_reducible refine if_t (by rfl) ?_ | with_reducible refine IfK.t (by rfl) ?_ | with_reducible refine IteK.t (by rfl) ?_ | rw [if_pos (by rfl)]
    repeat walk_at "f"
    refine SbW.list (hset_same _ _ _) i2 (by rw [n2]; exact vals_get hrp) (by first | exact vl hz' | exact vl (hz'.symm ▸ hz) | exact vl hz | (rw [vals_len]; omega)) ?_
    repeat walk_at "f"
    refine SiW.list (hset_same _ _ _) (Int.natCast_nonneg _) (vlt hn') (vl (hz'.symm ▸ hz)) ?_
    rw [hset_hset, Int.toNat_natCast, vals_set]
    repeat walk_at "f"
    refine OpW.mulI (.of_left (by decide +kernel)) ?_
    repeat walk_at "f"
    obtain ⟨q1, q2⟩ := set_swap_nodup (i := pos) (j := 2 * pos + 2) (Nat.ne_of_lt lt2) hrp hn' hd'
    refine ⟨xs.length - (2 * pos + 2), (by first | exact sub_lt' h2 lt2 | omega), xs.set pos rp, 2 * pos + 2, (by rw [c2]; walk_at "lk"), (by rw [c2]; walk_at "lk"), by walk_at "lk", by walk_at "lk", by walk_at "lk", by walk_at "lk", rfl, fun q hq => ?_, hkn, by rw [List.length_set]; omega, by rw [List.length_set]; exact hz', by rw [List.length_set], q1, ?_⟩
    ·rcases List.mem_or_eq_of_mem_set hq with h | rfl
     ·exact hk' _ h
     ·exact hk' _ (List.mem_of_getElem? hrp)
    ·rw [← hf, su.eq_def new pos xs, dif_pos h1, dif_pos ⟨h2, by rw [elp, hrp]; exact hlx⟩, hrp]; rfl
   ·repeat walk_at "f"
    first | with_reducible refine if_f (by decide) ?_ | with_reducible refine IfK.f (by decide) ?_ | with_reducible refine IteK.f (by decide) ?_ | rw [if_neg (by decide)]
    repeat walk_at "f"
    refine SbW.list (hset_same _ _ _) i1 (by rw [n1]; exact vals_get hlp) (by first | exact vl hz' | exact vl (hz'.symm ▸ hz) | exact vl hz | (rw [vals_len]; omega)) ?_
    repeat walk_at "f"
    refine SiW.list (hset_same _ _ _) (Int.natCast_nonneg _) (vlt hn') (vl (hz'.symm ▸ hz)) ?_
    rw [hset_hset, Int.toNat_natCast, vals_set]
    repeat walk_at "f"
    refine OpW.mulI (.of_left (by decide +kernel)) ?_
    repeat walk_at "f"
    obtain ⟨q1, q2⟩ := set_swap_nodup (i := pos) (j := 2 * pos + 1) (Nat.ne_of_lt lt1) hlp hn' hd'
    refine ⟨xs.length - (2 * pos + 1), (by first | exact sub_lt' h1 lt1 | omega), xs.set pos lp, 2 * pos + 1, (by rw [c1]; walk_at "lk"), (by rw [c1]; walk_at "lk"), by walk_at "lk", by walk_at "lk", by walk_at "lk", by walk_at "lk", rfl, fun q hq => ?_, hkn, by rw [List.length_set]; omega, by rw [List.length_set]; exact hz', by rw [List.length_set], q1, ?_⟩
    ·rcases List.mem_or_eq_of_mem_set hq with h | rfl
     ·exact hk' _ h
     ·exact hk' _ (List.mem_of_getElem? hlp)
    ·rw [← hf, su.eq_def new pos xs, dif_pos h1, dif_neg (by rw [elp, hrp]; rintro ⟨_, q⟩; exact absurd (hlx.symm.trans q) (by decide)), elp]
  ·rename_i hc2
   have h2 : ¬ 2 * pos + 2 < xs.length := fun q => hc2 (decide_eq_true (d2' (hz' ▸ q)))
   repeat walk_at "f"
   first | with_reducible refine if_f (by decide) ?_ | with_reducible refine IfK.f (by decide) ?_ | with_reducible refine IteK.f (by decide) ?_ | rw [if_neg (by decide)]
   repeat walk_at "f"
   refine SbW.list (hset_same _ _ _) i1 (by rw [n1]; exact vals_get hlp) (by first | exact vl hz' | exact vl (hz'.symm ▸ hz) | exact vl hz | (rw [vals_len]; omega)) ?_
   repeat walk_at "f"
   refine SiW.list (hset_same _ _ _) (Int.natCast_nonneg _) (vlt hn') (vl (hz'.symm ▸ hz)) ?_
   rw [hset_hset, Int.toNat_natCast, vals_set]
   repeat walk_at "f"
   refine OpW.mulI (.of_left (by decide +kernel)) ?_
   repeat walk_at "f"
   obtain ⟨q1, q2⟩ := set_swap_nodup (i := pos) (j := 2 * pos + 1) (Nat.ne_of_lt lt1) hlp hn' hd'
   refine ⟨xs.length - (2 * pos + 1), (by first | exact sub_lt' h1 lt1 | omega), xs.set pos lp, 2 * pos + 1, (by rw [c1]; walk_at "lk"), (by rw [c1]; walk_at "lk"), by walk_at "lk", by walk_at "lk", by walk_at "lk", by walk_at "lk", rfl, fun q hq => ?_, hkn, by rw [List.length_set]; omega, by rw [List.length_set]; exact hz', by rw [List.length_set], q1, ?_⟩
   ·rcases List.mem_or_eq_of_mem_set hq with h | rfl
    ·exact hk' _ h
    ·exact hk' _ (List.mem_of_getElem? hlp)
   ·rw [← hf, su.eq_def new pos xs, dif_pos h1, dif_neg (fun q => h2 q.1), elp]
 ·rename_i hc
  have h1 : ¬ 2 * pos + 1 < xs.length := fun q => hc (decide_eq_true (d1' (hz' ▸ q)))
  repeat walk_at "f"
  refine SiW.list (hset_same _ _ _) (Int.natCast_nonneg _) (vlt hn') (vl (hz'.symm ▸ hz)) ?_
  rw [hset_hset, Int.toNat_natCast, vals_set]
  repeat walk_at "f"
  repeat walk_at "f"
  have hp0 : (xs.set pos new)[pos]? = some new := by rw [List.getElem?_set_self hn']
  refine CallKW.toCall (CodeW.toKW ((c114 (c := ⟨d, _, _⟩) (its := xs.set pos new) (new := new) (by first | exact room_le hroom hrm tt | exact room_le hroom hr tt | (show 1 ≤ d.room; omega)) (hset_same _ _ _) (fun p hp => ?_) hp0 hd' (by rw [List.length_set]; omega)).mono fun a H' z => ?_))
  ·rcases List.mem_or_eq_of_mem_set hp with h | rfl
   ·exact (hk' _ h).set hl
   ·exact hkn.set hl
  ·obtain ⟨ha, hH⟩ := z
   subst ha hH
   repeat walk_at "f"
   refine ⟨rfl, ?_⟩
   rw [hset_hset, ← hf, su.eq_def new pos xs, dif_neg h1]
end
end
section
set_option maxHeartbeats 4000000
theorem f100 (P) : (Kf P).lookup 100 = some (fnO (topS 7) (o "heappush") .none (.str (o "cpy313.heapq") 399) (.ref 99)) := rfl
theorem g100 (P) : codeIn (Kf P) (.ref 99) (o "heappush") = true := rfl
theorem f107 (P) : (Kf P).lookup 107 = some (fnO (topS 8) (o "heappop") .none (.str (o "cpy313.heapq") 399) (.ref 106)) := rfl
theorem g107 (P) : codeIn (Kf P) (.ref 106) (o "heappop") = true := rfl
theorem vals_append (a b : List It) : vals (a ++ b) = vals a ++ vals b := List.map_append
section
variable {c : Cx} {L : AL} {H : AH}
theorem c100 {hp : Addr} {its : List It} {new : It} (hroom : 2 ≤ c.d.room) (hl : H hp = some (.list (vals its))) (hk : ∀ p ∈ its, KeyOf H p.2 p.1) (hn : KeyOf H new.2 new.1) (hd : (keys (its ++ [new])).Nodup) (hz : its.length ≤ 90000) :
  CodeW c (.ref 100) [.ref hp, new.2] [] [] L H (fun a H' => a = .none ∧ H' = hset H hp (.list (vals (sd new its.length (its ++ [new]))))) := by
 refine CodeW.enterP (ns := [o "heap", o "item"]) (bas := [.ref hp, new.2]) (f100 _) (g100 _) (by first | exact room_1 hroom tt | omega) (fun vs ws hv hw => ?_) (by rfl) (by rfl) (by rfl) (by rfl) (by rfl) fun d hr _ Pf hPf => ?_
 ·exact bind2 hv fun _ _ _ _ => BindsTo.of_eq (by rfl)
 conv in fBody _ => whnf
 repeat walk_at "f"
 repeat walk_at "f"
 refine ⟨⟨⟨_, hl⟩, rfl⟩, ?_⟩
 repeat walk_at "f"
 refine CallW.append hl (by rw [vals_len]; omega) ?_
 repeat walk_at "f"
 repeat walk_at "f"
 repeat walk_at "f"
 refine CallW.lenL (hset_same _ _ _) (by simp only [List.length_append, vals_len]; simp; omega) ?_
 repeat walk_at "f"
 rw [show vals its ++ [new.2] = vals (its ++ [new]) by rw [vals_append]; rfl, vals_len, show (((its ++ [new]).length : Nat) : Int) - 1 = (its.length : Nat) by simp]
 refine CallKW.toCall (CodeW.toKW ((c114 (c := ⟨d, _, _⟩) (its := its ++ [new]) (new := new) (by first | exact room_le hroom hrm tt | exact room_le hroom hr tt | (show 1 ≤ d.room; omega)) (hset_same _ _ _) (fun p hp => ?_) (by simp) hd (by simp; omega)).mono fun a H' z => ?_))
 ·rcases List.mem_append.mp hp with h | h
  ·exact (hk _ h).set hl
  ·rcases List.mem_cons.mp h with rfl | h
   ·exact hn.set hl
   ·cases h
 ·obtain ⟨ha, hH⟩ := z
  subst ha hH
  repeat walk_at "f"
  exact ⟨rfl, hset_hset _ _ _ _⟩
noncomputable def popR {α : Type} : List (ItA α) → ItA α → ItA α
 | [], l => l
 | x :: _, _ => x
noncomputable def popL {α : Type} : List (ItA α) → ItA α → List (ItA α)
 | [], _ => []
 | xs, l => su l 0 (xs.set 0 l)
theorem c107 {hp : Addr} {its : List It} {last : It} (hroom : 3 ≤ c.d.room) (hl : H hp = some (.list (vals (its ++ [last])))) (hk : ∀ p ∈ its ++ [last], KeyOf H p.2 p.1) (hd : (keys (its ++ [last])).Nodup) (hz : its.length ≤ 90000) :
  CodeW c (.ref 107) [.ref hp] [] [] L H (fun a H' => a = (popR its last).2 ∧ H' = hset H hp (.list (vals (popL its last)))) := by
 refine CodeW.enterP (ns := [o "heap"]) (bas := [.ref hp]) (f107 _) (g107 _) (by first | exact room_1 hroom tt | omega) (fun vs ws hv hw => ?_) (by rfl) (by rfl) (by rfl) (by rfl) (by rfl) fun d hr _ Pf hPf => ?_
 ·exact bind1 hv fun _ _ _ => BindsTo.of_eq (by rfl)
 conv in fBody _ => whnf
 repeat walk_at "f"
 refine EW.popL ?_
 repeat walk_at "f"
 refine ⟨_, vals its, last.2, rfl, by rw [hl, vals_append]; rfl, by rw [vals_len]; omega, ?_⟩
 repeat walk_at "f"
 refine CB.val ?_
 repeat walk_at "f"
 refine TrW.list (hset_same _ _ _) (by rw [vals_len]; exact Nat.le_trans hz (by decide)) ?_
 cases its with
 | nil =>
  repeat walk_at "f"
  first | with_reducible refine if_f (by decide) ?_ | with_reducible refine IfK.f (by decide) ?_ | with_reducible refine IteK.f (by decide) ?_ | rw [if_neg (by decide)]
  repeat walk_at "f"
  exact ⟨rfl, rfl⟩
 | cons x r =>
  repeat walk_at "f"
  first | with_reducible refine if_t (by rfl) ?_ | with_reducible refine IfK.t (by rfl) ?_ | with_reducible refine IteK.t (by rfl) ?_ | rw [if_pos (by rfl)]
  repeat walk_at "f"
  refine SbW.list (hset_same _ _ _) (Int.le_refl 0) (x := x.2) rfl (by rw [vals_len]; omega) ?_
  repeat walk_at "f"
  refine SiW.list (hset_same _ _ _) (Int.le_refl 0) (by rw [vals_len]; simp only [List.length_cons]; omega) (by rw [vals_len]; omega) ?_
  rw [hset_hset, show (0 : Int).toNat = 0 from rfl, vals_set]
  repeat walk_at "f"
  repeat walk_at "f"
  have hper : (keys ((x :: r).set 0 last)).Nodup := by
   have : (keys ((x :: r).set 0 last)).Perm (keys (r ++ [last])) := (List.perm_append_comm (l₁ := [last]) (l₂ := r)).map _
   refine this.nodup_iff.mpr ?_
   have := hd
   rw [List.cons_append] at this
   exact (List.nodup_cons.mp this).2
  refine CallKW.toCall (CodeW.toKW ((c121 (c := ⟨d, _, _⟩) (its := (x :: r).set 0 last) (new := last) (by first | exact room_le hroom hrm tt | exact room_le hroom hr tt | (show 2 ≤ d.room; omega)) (hset_same _ _ _) (fun p hp => ?_) rfl hper (by rw [List.length_set]; omega)).mono fun a H' z => ?_))
  ·rcases List.mem_or_eq_of_mem_set hp with h | rfl
   ·exact (hk _ (List.mem_append_left _ h)).set hl
   ·exact (hk _ (by simp)).set hl
  ·obtain ⟨ha, hH⟩ := z
   subst ha hH
   repeat walk_at "f"
   exact ⟨rfl, by rw [hset_hset]; rfl⟩
end
end
section
inductive All2 {α β : Type} (R : α → β → Prop) : List α → List β → Prop
 | nil : All2 R [] []
 | cons {a : α} {b : β} {as : List α} {bs : List β} (h : R a b) (t : All2 R as bs) : All2 R (a :: as) (b :: bs)
namespace All2
variable {α β : Type} {R R' : α → β → Prop}
theorem length {as : List α} {bs : List β} (h : All2 R as bs) : as.length = bs.length := by
 induction h with
 | nil => rfl
 | cons _ _ ih => simp [ih]
theorem mono {as : List α} {bs : List β} (h : All2 R as bs) (k : ∀ a b, R a b → R' a b) : All2 R' as bs := by
 induction h with
 | nil => exact .nil
 | cons h _ ih => exact .cons (k _ _ h) ih
theorem append {as cs : List α} {bs ds : List β} (h : All2 R as bs) (k : All2 R cs ds) : All2 R (as ++ cs) (bs ++ ds) := by
 induction h with
 | nil => exact k
 | cons h _ ih => exact .cons h ih
theorem one {a : α} {b : β} (h : R a b) : All2 R [a] [b] := .cons h .nil
inductive AtR {α β : Type} (R : α → β → Prop) (as : List α) (i : Nat) (b : β) : Prop
 | mk' (a : α) (e : as[i]? = some a) (h : R a b)
inductive AtL {α β : Type} (R : α → β → Prop) (bs : List β) (i : Nat) (a : α) : Prop
 | mk' (b : β) (e : bs[i]? = some b) (h : R a b)
inductive LaR {α β : Type} (R : α → β → Prop) (as : List α) (b : β) : Prop
 | mk' (a : α) (e : as.getLast? = some a) (h : R a b)
theorem getR {as : List α} {bs : List β} (h : All2 R as bs) : ∀ {i : Nat} {b : β}, bs[i]? = some b → AtR R as i b := by
 induction h with
 | nil => intro i b e; simp at e
 | cons hh _ ih =>
  intro i b e
  cases i with
  | zero => simp at e; subst e; exact ⟨_, rfl, hh⟩
  | succ i => simp at e; obtain ⟨v, hv, r⟩ := ih e; exact ⟨v, by simpa using hv, r⟩
theorem getL {as : List α} {bs : List β} (h : All2 R as bs) : ∀ {i : Nat} {a : α}, as[i]? = some a → AtL R bs i a := by
 induction h with
 | nil => intro i b e; simp at e
 | cons hh _ ih =>
  intro i b e
  cases i with
  | zero => simp at e; subst e; exact ⟨_, rfl, hh⟩
  | succ i => simp at e; obtain ⟨v, hv, r⟩ := ih e; exact ⟨v, by simpa using hv, r⟩
theorem take {as : List α} {bs : List β} (h : All2 R as bs) (n : Nat) : All2 R (as.take n) (bs.take n) := by
 induction h generalizing n with
 | nil => simp; exact .nil
 | cons hh _ ih => cases n with
  | zero => exact .nil
  | succ n => exact .cons hh (ih n)
theorem set {as : List α} {bs : List β} (h : All2 R as bs) {a : α} {b : β} (hr : R a b) : ∀ i, All2 R (as.set i a) (bs.set i b) := by
 induction h with
 | nil => intro i; exact .nil
 | cons hh t ih => intro i; cases i with
  | zero => exact .cons hr t
  | succ i => exact .cons hh (ih i)
theorem isEmpty {as : List α} {bs : List β} (h : All2 R as bs) : as.isEmpty = bs.isEmpty := by cases h <;> rfl
theorem getLast {as : List α} {bs : List β} (h : All2 R as bs) {b : β} (e : bs.getLast? = some b) : LaR R as b := by
 rw [List.getLast?_eq_getElem?] at e
 obtain ⟨a, ha, r⟩ := h.getR e
 exact ⟨a, by rw [List.getLast?_eq_getElem?, h.length]; exact ha, r⟩
end All2
structure Row where
 agents : List (W × W)
 delays : List Int
 rates : List (Int × Int)
 rules : List (Nat × W × W)
inductive PairAt (H : AH) (v : AV) (p : W × W) : Prop
 | mk' (a : Addr) (e : v = .ref a) (h : H a = some (.tup [.str (S p.1), .str (S p.2)]))
inductive RateAt (H : AH) (v : AV) (p : Int × Int) : Prop
 | mk' (a : Addr) (e : v = .ref a) (h : H a = some (.tup [.int p.1, .int p.2]))
inductive RuleAt (H : AH) (v : AV) (p : Nat × W × W) : Prop
 | mk' (a : Addr) (e : v = .ref a) (h : H a = some (.tup [.int p.1, .str (S p.2.1), .str (S p.2.2)]))
inductive RowAt (H : AH) (v : AV) (r : Row) : Prop
 | mk' (x a d t u : Addr) (la lt lu : List AV) (e : v = .ref x) (g : H x = some (.list [.ref a, .ref d, .ref t, .ref u])) (h1 : H a = some (.list la)) (h2 : All2 (PairAt H) la r.agents)
  (h3 : H d = some (.list (r.delays.map .int))) (h4 : H t = some (.list lt)) (h5 : All2 (RateAt H) lt r.rates) (h6 : H u = some (.list lu)) (h7 : All2 (RuleAt H) lu r.rules)
inductive RowsAt (H : AH) (v : AV) (rs : List Row) : Prop
 | mk' (x : Addr) (l : List AV) (e : v = .ref x) (g : H x = some (.list l)) (h : All2 (RowAt H) l rs)
theorem PairAt.mono {H H' : AH} {v : AV} {p : W × W} (k : HLe H H') (h : PairAt H v p) : PairAt H' v p := by obtain ⟨a, e, g⟩ := h; exact ⟨a, e, k _ _ g⟩
theorem RateAt.mono {H H' : AH} {v : AV} {p : Int × Int} (k : HLe H H') (h : RateAt H v p) : RateAt H' v p := by obtain ⟨a, e, g⟩ := h; exact ⟨a, e, k _ _ g⟩
theorem RuleAt.mono {H H' : AH} {v : AV} {p : Nat × W × W} (k : HLe H H') (h : RuleAt H v p) : RuleAt H' v p := by obtain ⟨a, e, g⟩ := h; exact ⟨a, e, k _ _ g⟩
theorem RowAt.mono {H H' : AH} {v : AV} {r : Row} (k : HLe H H') (h : RowAt H v r) : RowAt H' v r := by
 obtain ⟨x, a, d, t, u, la, lt, lu, e, g, h1, h2, h3, h4, h5, h6, h7⟩ := h
 exact ⟨x, a, d, t, u, la, lt, lu, e, k _ _ g, k _ _ h1, h2.mono fun _ _ => PairAt.mono k, k _ _ h3, k _ _ h4, h5.mono fun _ _ => RateAt.mono k, k _ _ h6, h7.mono fun _ _ => RuleAt.mono k⟩
theorem RowsAt.mono {H H' : AH} {v : AV} {r : List Row} (k : HLe H H') (h : RowsAt H v r) : RowsAt H' v r := by obtain ⟨x, l, e, g, h1⟩ := h; exact ⟨x, l, e, k _ _ g, h1.mono fun _ _ => RowAt.mono k⟩
structure Nd where
 key : List Int
 row : Option Row
 line : W
 words : List W
noncomputable def ORowAt (H : AH) (v : AV) : Option Row → Prop
 | none => ∃ a, v = .ref a ∧ H a = some (.list [])
 | some r => RowAt H v r
theorem ORowAt.mono {H H' : AH} {v : AV} {r : Option Row} (k : HLe H H') (h : ORowAt H v r) : ORowAt H' v r := by
 cases r with
 | none => obtain ⟨a, e, g⟩ := h; exact ⟨a, e, k _ _ g⟩
 | some r => exact RowAt.mono k h
noncomputable def wds (ws : List W) : List AV := ws.map fun w => .str (S w)
inductive NdAt (H : AH) (v : AV) (n : Nd) : Prop
 | mk' (x at' : Addr) (ra : AV) (wa : Addr) (e : v = .ref x) (g : H x = some (.tup [.ref at', ra, .str (S n.line), .ref wa])) (h1 : H at' = some (.tup (n.key.map .int))) (h2 : ORowAt H ra n.row) (h3 : H wa = some (.list (wds n.words)))
theorem NdAt.mono {H H' : AH} {v : AV} {n : Nd} (k : HLe H H') (h : NdAt H v n) : NdAt H' v n := by
 obtain ⟨x, a, r, w, e, g, h1, h2, h3⟩ := h; exact ⟨x, a, r, w, e, k _ _ g, k _ _ h1, h2.mono k, k _ _ h3⟩
theorem NdAt.mk {H : AH} {n : Nd} {x at' wa : Addr} {ra : AV} {l : W} {ks ws : List AV} (h1 : H x = some (.tup [.ref at', ra, .str (S l), .ref wa])) (h2 : H at' = some (.tup ks)) (h3 : ORowAt H ra n.row) (h4 : H wa = some (.list ws)) (e1 : l = n.line) (e2 : ks = n.key.map .int) (e3 : ws = wds n.words) : NdAt H (.ref x) n := by
 subst e1 e2 e3
 exact ⟨x, at', ra, wa, rfl, h1, h2, h3, h4⟩
theorem NdAt.key {H : AH} {v : AV} {n : Nd} (h : NdAt H v n) : KeyOf H v n.key := by obtain ⟨x, a, r, w, e, g, h1, _⟩ := h; exact ⟨x, a, _, e, g, h1⟩
noncomputable def numW (i : Int) : W := lit (toString i)
noncomputable def ruleNd (rows : List Row) (k : Nat) (p : Nat × W × W) : Nd :=
 if p.1 > 0 then ⟨[3, k], rows[p.1]?, lit "", []⟩ else ⟨[3, k], none, lit "Disallow: " ++ p.2.1, [lit "Disallow:", p.2.2]⟩
noncomputable def rateW (p : Int × Int) : W := numW p.1 ++ lit "/" ++ numW p.2
noncomputable def agentNd (k : Nat) (p : W × W) : Nd := ⟨[0, k], none, lit "User-agent: " ++ p.1, if p.1 != lit "" then [lit "User-agent:", p.2] else [lit "User-agent:"]⟩
noncomputable def imapF {α β : Type} (f : Nat → α → β) : Nat → List α → List β
 | _, [] => []
 | i, a :: l => f i a :: imapF f (i + 1) l
noncomputable def imap {α β : Type} (f : Nat → α → β) (l : List α) : List β := imapF f 0 l
theorem imapF_len {α β : Type} (f : Nat → α → β) : ∀ (l : List α) (i : Nat), (imapF f i l).length = l.length
 | [], _ => rfl
 | a :: l, i => congrArg Nat.succ (imapF_len f l (i + 1))
theorem imapF_snoc {α β : Type} (f : Nat → α → β) (b : α) : ∀ (l : List α) (i : Nat), imapF f i (l ++ [b]) = imapF f i l ++ [f (i + l.length) b]
 | [], _ => rfl
 | a :: l, i => by
  show f i a :: imapF f (i + 1) (l ++ [b]) = f i a :: (imapF f (i + 1) l ++ _)
  rw [imapF_snoc f b l (i + 1), List.length_cons, show i + 1 + l.length = i + (l.length + 1) by omega]
noncomputable def heldA (row : Row) : List Nd := if row.rules.isEmpty then [⟨[3], none, lit "Allow:", [lit "Allow:"]⟩] else []
noncomputable def heldC (row : Row) : List Nd := match row.rates.getLast? with
 | some p => [⟨[2], none, lit "Request-rate: " ++ rateW p, [lit "Request-rate:", rateW p]⟩]
 | none => []
noncomputable def heldD (row : Row) : List Nd := match row.delays.getLast? with
 | some p => [⟨[1], none, lit "Crawl-delay: " ++ numW p, [lit "Crawl-delay:", numW p]⟩]
 | none => []
noncomputable def held (rows : List Row) (row : Row) : List Nd := heldA row ++ imap (ruleNd rows) row.rules ++ heldC row ++ heldD row ++ imap agentNd row.agents
theorem imap_len {α β : Type} (f : Nat → α → β) (l : List α) : (imap f l).length = l.length := imapF_len f l 0
theorem imap_snoc {α β : Type} (f : Nat → α → β) (l : List α) (a : α) : imap f (l ++ [a]) = imap f l ++ [f l.length a] := by
 have := imapF_snoc f a l 0
 rwa [Nat.zero_add] at this
theorem imap_take {α β : Type} (f : Nat → α → β) (l : List α) {i : Nat} {a : α} (h : l[i]? = some a) : imap f (l.take (i + 1)) = imap f (l.take i) ++ [f i a] := by
 have hi := (List.getElem?_eq_some_iff.mp h).1
 rw [List.take_add_one, h]
 show imap f (l.take i ++ [a]) = _
 rw [imap_snoc, List.length_take, Nat.min_eq_left (Nat.le_of_lt hi)]
structure RowOk (row : Row) : Prop where
 agents : ∀ p ∈ row.agents, p.1.length ≤ 60 ∧ p.2.length ≤ 60
 delays : ∀ d ∈ row.delays, 0 ≤ d ∧ d < 1000
 rates : ∀ p ∈ row.rates, (0 ≤ p.1 ∧ p.1 < 10) ∧ 0 ≤ p.2 ∧ p.2 < 100
 rules : ∀ p ∈ row.rules, p.2.1.length ≤ 60 ∧ p.2.2.length ≤ 60
 count : row.agents.length ≤ 60 ∧ row.rules.length ≤ 60
 small : row.rates.length ≤ 100000
 small2 : row.delays.length ≤ 100000
noncomputable def RowsOk (rows : List Row) : Prop := (∀ r ∈ rows, RowOk r) ∧ (∀ r ∈ rows, ∀ p ∈ r.rules, p.1 < rows.length) ∧ rows.length ≤ 60
theorem numW_len : ∀ n : Nat, n < 1000 → (numW (n : Int)).length ≤ 3 := by decide +kernel
theorem numW_le {i : Int} (h0 : 0 ≤ i) (h1 : i < 1000) : (numW i).length ≤ 3 := by
 have := numW_len i.toNat ((Int.toNat_lt h0).mpr h1)
 rwa [Int.toNat_of_nonneg h0] at this
theorem log2_small {i : Int} (h0 : 0 ≤ i) (h1 : i < 1000) : i.natAbs.log2 < 1920 := by
 obtain ⟨n, rfl⟩ := Int.eq_ofNat_of_zero_le h0
 exact Nat.lt_trans (Nat.lt_of_le_of_lt (Nat.log2_le_self n) (Int.ofNat_lt.mp h1)) (by decide)
noncomputable def pushS (h : List (ItA Nd)) (nd : Nd) : Option (List (ItA Nd)) :=
 if (keys (h ++ [(nd.key, nd)])).Nodup ∧ h.length ≤ 90000 ∧ nd.key.length ≤ 1000 then some (sd (nd.key, nd) h.length (h ++ [(nd.key, nd)])) else none
noncomputable def pushL : List (ItA Nd) → List Nd → Option (List (ItA Nd))
 | h, [] => some h
 | h, nd :: r => match pushS h nd with
  | some h' => pushL h' r
  | none => none
noncomputable def Nd.ext (k : List Int) (n : Nd) : Nd := { n with key := k ++ n.key }
noncomputable def Nd.leaf (n : Nd) : Bool := match n.row with
 | none => true
 | some r => r.agents.isEmpty
noncomputable def heldOf (rows : List Row) (n : Nd) : List Nd := match n.row with
 | none => []
 | some r => (held rows r).map (Nd.ext n.key)
noncomputable def runH (rows : List Row) : Nat → List (ItA Nd) → List (W × List W) → Option (List (W × List W))
 | 0, _, _ => none
 | n + 1, h, out => match h.getLast? with
  | none => some out
  | some last =>
   if (keys h).Nodup ∧ h.length ≤ 90000 ∧ out.length ≤ 90000 then
    if (popR h.dropLast last).2.leaf then runH rows n (popL h.dropLast last) (out ++ [((popR h.dropLast last).2.line, (popR h.dropLast last).2.words)])
    else match pushL (popL h.dropLast last) (heldOf rows (popR h.dropLast last).2) with
     | some h' => runH rows n h' out
     | none => none
   else none
theorem sd_rel {α β : Type} {R : ItA α → ItA β → Prop} (hk : ∀ a b, R a b → a.1 = b.1) : ∀ (pos : Nat) {xs : List (ItA α)} {ys : List (ItA β)} {a : ItA α} {b : ItA β}, All2 R xs ys → R a b → All2 R (sd a pos xs) (sd b pos ys) := by
 intro pos
 induction pos using Nat.strongRecOn with
 | _ pos ih =>
  intro xs ys a b h hab
  rw [sd.eq_def a, sd.eq_def b]
  by_cases h0 : 0 < pos
  ·rw [dif_pos h0, dif_pos h0]
   cases hx : xs[(pos - 1) / 2]? with
   | none =>
    have : ys[(pos - 1) / 2]? = none := by
     rw [List.getElem?_eq_none_iff] at hx ⊢
     rw [← h.length]; exact hx
    rw [this]
    exact h
   | some p =>
    obtain ⟨q, hq, hpq⟩ := h.getL hx
    rw [hq]
    show All2 R (if _ then _ else _) (if _ then _ else _)
    rw [hk _ _ hab, hk _ _ hpq]
    split
    ·exact ih _ (par_lt h0) (h.set hpq _) hab
    ·exact h.set hab _
  ·rw [dif_neg h0, dif_neg h0]
   exact h.set hab _
theorem su_rel {α β : Type} {R : ItA α → ItA β → Prop} (hk : ∀ a b, R a b → a.1 = b.1) : ∀ (n pos : Nat) {xs : List (ItA α)} {ys : List (ItA β)} {a : ItA α} {b : ItA β}, xs.length - pos = n → All2 R xs ys → R a b → All2 R (su a pos xs) (su b pos ys) := by
 intro n
 induction n using Nat.strongRecOn with
 | _ n ih =>
  intro pos xs ys a b hn h hab
  rw [su.eq_def a, su.eq_def b]
  by_cases h0 : 2 * pos + 1 < xs.length
  ·have h0' : 2 * pos + 1 < ys.length := by rw [← h.length]; exact h0
   rw [dif_pos h0, dif_pos h0']
   obtain ⟨q, hq, hpq⟩ := h.getL (List.getElem?_eq_getElem h0)
   have eq : ys[2 * pos + 1] = q := (List.getElem?_eq_some_iff.mp hq).2
   have hr : R (xs[2 * pos + 2]?.getD a) (ys[2 * pos + 2]?.getD b) := by
    cases hx : xs[2 * pos + 2]? with
    | none =>
     have : ys[2 * pos + 2]? = none := by
      rw [List.getElem?_eq_none_iff] at hx ⊢
      rw [← h.length]; exact hx
     rw [this]; exact hab
    | some p =>
     obtain ⟨q, hq, hpq⟩ := h.getL hx
     rw [hq]; exact hpq
   by_cases h1 : 2 * pos + 2 < xs.length ∧ lexLt (xs[2 * pos + 1].1) ((xs[2 * pos + 2]?.getD a).1) = false
   ·have h1' : 2 * pos + 2 < ys.length ∧ lexLt (ys[2 * pos + 1].1) ((ys[2 * pos + 2]?.getD b).1) = false := by
     rw [← h.length, eq, ← hk _ _ hpq, ← hk _ _ hr]; exact h1
    rw [dif_pos h1, dif_pos h1']
    exact ih _ (by rw [List.length_set, ← hn]; exact sub_lt' h1.1 lt2) _ rfl (h.set hr _) hab
   ·have h1' : ¬ (2 * pos + 2 < ys.length ∧ lexLt (ys[2 * pos + 1].1) ((ys[2 * pos + 2]?.getD b).1) = false) := by
     rw [← h.length, eq, ← hk _ _ hpq, ← hk _ _ hr]; exact h1
    rw [dif_neg h1, dif_neg h1', eq]
    exact ih _ (by rw [List.length_set, ← hn]; exact sub_lt' h0 lt1) _ rfl (h.set hpq _) hab
  ·have h0' : ¬ 2 * pos + 1 < ys.length := by rw [← h.length]; exact h0
   rw [dif_neg h0, dif_neg h0']
   exact sd_rel hk _ (h.set hab _) hab
inductive LstP {β : Type} (P : AH → AV → β → Prop) (H : AH) (out : List β) (a : AV) (H' : AH) : Prop
 | mk' (le : HLe H H') (x : Addr) (vs : List AV) (e : a = .ref x) (g : H' x = some (.list vs)) (h : All2 (P H') vs out)
end
section
section
variable {c : Cx} {L : AL} {H : AH} {R : List (Addr × Obj)} {s : Shared}
inductive FrP (Q : AV → AH → Prop) (a : Addr) (ao : AObj) (v : AV) (H' : AH) : Prop
 | mk' (H1 : AH) (q : Q v H1) (n : H1 a = none) (e : H' = hset H1 a ao)
theorem TW.frame {t : Sem Value} {a : Addr} {ao : AObj} {Q : AV → AH → Prop} (ha : H a = some ao) (h : TW c t L (hdel H a) Q) : TW c t L H (FrP Q a ao) := fun R s S => by
 obtain ⟨o, hr, g, hR, S1⟩ := S.toR ha
 refine h.run S1 fun v av H1 s' hv S2 q => ?_
 exact ⟨av, _, hv, S2.ofR (.head _) hr fun p hp => ⟨.tail _ hp, hR p hp⟩, H1, q, S2.sep _ (.head _), rfl⟩
theorem hset_comm {H : AH} {a b : Addr} {x y : AObj} (h : a ≠ b) : hset (hset H a x) b y = hset (hset H b y) a x := by
 funext d
 by_cases q : d = b
 ·subst q; rw [hset_same, hset_ne (Ne.symm h), hset_same]
 ·by_cases q' : d = a
  ·subst q'; rw [hset_ne q, hset_same, hset_same]
  ·rw [hset_ne q, hset_ne q', hset_ne q', hset_ne q]
structure Two (Hd : AH) (p q : Addr) (X Y : AObj) (H : AH) : Prop where
 e : H = hset (hset Hd p X) q Y
 np : Hd p = none
 nq : Hd q = none
 ne : p ≠ q
namespace Two
variable {Hd : AH} {p q : Addr} {X Y X' Y' : AObj}
theorem getp (t : Two Hd p q X Y H) : H p = some X := by rw [t.e, hset_ne t.ne, hset_same]
theorem getq (t : Two Hd p q X Y H) : H q = some Y := by rw [t.e, hset_same]
theorem le (t : Two Hd p q X Y H) : HLe Hd H := by rw [t.e]; exact HLe.mut t.nq (HLe.mut t.np HLe.rfl)
theorem setp (t : Two Hd p q X Y H) : Two Hd p q X' Y (hset H p X') := ⟨by rw [t.e, hset_comm t.ne.symm, hset_hset, hset_comm t.ne], t.np, t.nq, t.ne⟩
theorem setq (t : Two Hd p q X Y H) : Two Hd p q X Y' (hset H q Y') := ⟨by rw [t.e, hset_hset], t.np, t.nq, t.ne⟩
theorem alloc (t : Two Hd p q X Y H) {a : Addr} {o : AObj} (h : H a = none) : Two (hset Hd a o) p q X Y (hset H a o) := by
 have hp : a ≠ p := ne_of h t.getp
 have hq : a ≠ q := ne_of h t.getq
 exact ⟨by rw [t.e, hset_comm hq.symm, hset_comm hp.symm], (hset_ne hp.symm).trans t.np, (hset_ne hq.symm).trans t.nq, t.ne⟩
theorem none (t : Two Hd p q X Y H) {a : Addr} (h : H a = .none) : Hd a = .none := t.le.back h
end Two
inductive TwoP (Q : AV → AH → Prop) (p q : Addr) (X Y : AObj) (v : AV) (H' : AH) : Prop
 | mk' (H1 : AH) (k : Q v H1) (w : Two H1 p q X Y H')
theorem TW.frame2 {t : Sem Value} {Hd : AH} {p q : Addr} {X Y : AObj} {Q : AV → AH → Prop} (w : Two Hd p q X Y H) (h : TW c t L Hd Q) : TW c t L H (TwoP Q p q X Y) := by
 have h1 : TW c t L (hdel (hdel H q) p) Q := h.less (by
  intro b ob e
  have hb : b ≠ p := fun z => by rw [z, w.np] at e; cases e
  have hb' : b ≠ q := fun z => by rw [z, w.nq] at e; cases e
  rw [hdel_ne hb, hdel_ne hb']
  exact w.le _ _ e)
 have hp : hdel H q p = some X := (hdel_ne w.ne).trans w.getp
 refine ((h1.frame hp).frame w.getq).mono fun v H' z => ?_
 obtain ⟨H2, ⟨H1, q1, n1, e1⟩, n2, e2⟩ := z
 refine ⟨H1, q1, by rw [e2, e1], n1, ?_, w.ne⟩
 rw [e1, hset_ne w.ne.symm] at n2
 exact n2
theorem CallW.frame2 {f : Value} {as : List AV} {Hd : AH} {p q : Addr} {X Y : AObj} {Q : AV → AH → Prop} (w : Two Hd p q X Y H) (h : CallW c f as L Hd Q) : CallW c f as L H (TwoP Q p q X Y) := fun vs hv => (h vs hv).frame2 w
theorem OpW.frame2 {op : Operator} {a b : AV} {Hd : AH} {p q : Addr} {X Y : AObj} {Q : AV → AH → Prop} (w : Two Hd p q X Y H) (h : OpW c op a b L Hd Q) : OpW c op a b L H (TwoP Q p q X Y) := fun va vb ha hb => (h va vb ha hb).frame2 w
theorem OpW.mono {op : Operator} {a b : AV} {Q Q' : AV → AH → Prop} (h : OpW c op a b L H Q) (k : ∀ v H', Q v H' → Q' v H') : OpW c op a b L H Q' := fun va vb ha hb => (h va vb ha hb).mono k
theorem bindC_eq {kindOf : Str → Option NameKind} {x : Str} (hx : kindOf x ≠ some .local) : ∀ (binds : List (Str × Value)) (m : Str → Option Value), bindC kindOf binds m x = (binds.reverse.lookup x).or (m x)
 | [], m => rfl
 | (n, v) :: r, m => by
  show bindC kindOf r (if kindOf n = some .local then m else fun y => if y = n then some v else m y) x = _
  rw [bindC_eq hx r, List.reverse_cons, List.lookup_append]
  cases h : List.lookup x r.reverse with
  | some w => rfl
  | none =>
   show (if kindOf n = some .local then m else fun y => if y = n then some v else m y) x = (Option.or (List.lookup x [(n, v)]) (m x))
   rw [List.lookup_cons]
   by_cases q : x = n
   ·subst q
    rw [if_neg hx]; simp
   ·have : (x == n) = false := by simpa using q
    rw [this]
    show _ = m x
    split
    ·rfl
    ·simp [q]
theorem bindL_eq {kindOf : Str → Option NameKind} {x : Str} (hx : kindOf x = some .local) : ∀ (binds : List (Str × Value)) (m : Str → Option Value), bindL kindOf binds m x = (binds.reverse.lookup x).or (m x)
 | [], m => rfl
 | (n, v) :: r, m => by
  show bindL kindOf r (if kindOf n = some .local then fun y => if y = n then some v else m y else m) x = _
  rw [bindL_eq hx r, List.reverse_cons, List.lookup_append]
  cases h : List.lookup x r.reverse with
  | some w => rfl
  | none =>
   show (if kindOf n = some .local then fun y => if y = n then some v else m y else m) x = (Option.or (List.lookup x [(n, v)]) (m x))
   rw [List.lookup_cons]
   by_cases q : x = n
   ·subst q
    rw [if_pos hx]; simp
   ·have : (x == n) = false := by simpa using q
    rw [this]
    show _ = m x
    split
    ·simp [q]
    ·rfl
theorem CellsAre.mem {cm : Str → Option Value} {cl : List (Str × Addr)} {cells : List (Addr × Obj)} (h : CellsAre cm cl cells) : (∀ x a, (x, a) ∈ cl → ∃ o, (a, o) ∈ cells ∧ o.data = .cell (cm x)) ∧ ∀ a o, (a, o) ∈ cells → ∃ x, (x, a) ∈ cl := by
 induction h with
 | nil => exact ⟨(fun _ _ h => nomatch h), (fun _ _ h => nomatch h)⟩
 | cons hd _ ih =>
  refine ⟨fun x a h => ?_, fun a o h => ?_⟩
  ·rcases List.mem_cons.mp h with e | h
   ·cases e; exact ⟨_, .head _, hd⟩
   ·obtain ⟨o, h1, h2⟩ := ih.1 x a h; exact ⟨o, .tail _ h1, h2⟩
  ·rcases List.mem_cons.mp h with e | h
   ·cases e; exact ⟨_, .head _⟩
   ·obtain ⟨x, h1⟩ := ih.2 a o h; exact ⟨x, .tail _ h1⟩
noncomputable def addCells (H : AH) (cl : List (Str × Addr)) (m : AL) : AH := fun b => match cl.find? (fun p => p.2 == b) with
 | some p => some (.cell (m p.1))
 | none => H b
theorem cellsFrom_keys : ∀ (names : List (Str × NameKind)) (n : Nat) (acc : List (Str × Addr)) (x : Str) (a : Addr), (x, a) ∈ cellsFrom n names acc → (x, a) ∈ acc ∨ (x, NameKind.cell) ∈ names
 | [], n, acc, x, a, h => .inl h
 | (y, k) :: r, n, acc, x, a, h => by
  unfold cellsFrom at h
  split at h
  ·rename_i hk
   have hk' : k = .cell := by simpa using hk
   subst hk'
   rcases cellsFrom_keys r _ _ x a h with h | h
   ·rcases List.mem_cons.mp h with e | h
    ·cases e; exact .inr (.head _)
    ·exact .inl h
   ·exact .inr (.tail _ h)
  ·rcases cellsFrom_keys r _ _ x a h with h | h
   ·exact .inl h
   ·exact .inr (.tail _ h)
theorem cellsFrom_addr : ∀ (names : List (Str × NameKind)) (n : Nat) (acc : List (Str × Addr)), (∀ p ∈ acc, p.2 < n) → (∀ x y a, (x, a) ∈ acc → (y, a) ∈ acc → x = y) →
  (∀ x y a, (x, a) ∈ cellsFrom n names acc → (y, a) ∈ cellsFrom n names acc → x = y) ∧ ∀ p ∈ cellsFrom n names acc, p ∈ acc ∨ n ≤ p.2
 | [], n, acc, h1, h2 => ⟨h2, fun p hp => .inl hp⟩
 | (y, k) :: r, n, acc, h1, h2 => by
  unfold cellsFrom
  split
  ·obtain ⟨g1, g2⟩ := cellsFrom_addr r (n + 1) ((y, n) :: acc) (fun p hp => by
    rcases List.mem_cons.mp hp with rfl | hp
    ·exact Nat.lt_succ_self n
    ·exact Nat.lt_succ_of_lt (h1 p hp)) (fun x z a hx hz => by
    rcases List.mem_cons.mp hx with e | hx
    ·cases e
     rcases List.mem_cons.mp hz with e | hz
     ·cases e; rfl
     ·exact absurd (h1 _ hz) (Nat.lt_irrefl _)
    ·rcases List.mem_cons.mp hz with e | hz
     ·cases e; exact absurd (h1 _ hx) (Nat.lt_irrefl _)
     ·exact h2 x z a hx hz)
   refine ⟨g1, fun p hp => ?_⟩
   rcases g2 p hp with hp | hp
   ·rcases List.mem_cons.mp hp with rfl | hp
    ·exact .inr (Nat.le_refl _)
    ·exact .inl hp
   ·exact .inr (Nat.le_of_succ_le hp)
  ·exact cellsFrom_addr r n acc h1 h2
theorem CodeW.enterC {Q : AV → AH → Prop} {st : Stmt} {fa cda : Addr} {qual : Str} {dV pm : Value} {as kas : List AV} {kn ns : List Str} {bas : List AV}
  (ho : (KP c).lookup fa = some (fnO st qual dV pm (.ref cda))) (hcd : codeIn (KP c) (.ref cda) qual = true) (hroom : 1 ≤ c.d.room)
  (hb : ∀ vs ws, VRels as vs → VRels kas ws → ∃ bv, VRels bas bv ∧ ∀ s : Shared, (KP c).In s.heap → BindsTo s (fnOf (fName st) qual (fArgs st) (fBody st) (fScope st) dV .none .none pm none (.ref cda) .none) ⟨vs, kn.zip ws⟩ (ns.zip bv))
  (hloc : (ns.all fun x => (fScope st).names.lookup x == some .local || (fScope st).names.lookup x == some .cell) = true) (hnd : ((cellsFrom 0 (fScope st).names []).map (·.1)).Nodup)
  (hcn : ∀ x ∈ (fScope st).names, x.2 = .cell → (fScope st).names.lookup x.1 = some .cell)
  (hco : (fScope st).isCoroutine = false) (hgen : (fScope st).isGenerator = false) (hk : (fScope st).kind = .function)
  (k : ∀ (c' : Cx) (n : Nat) (H' : AH), c'.ns = (fScope st).names → c'.cl = cellsFrom n (fScope st).names [] → c'.d.room + 1 = c.d.room → c'.d.w = c.d.w → HLe H H' → (∀ x a, (x, a) ∈ cellsFrom n (fScope st).names [] → H a = none ∧ H' a = some (.cell (bindA ns bas x))) →
   SS c' (fBody st) (fun y => if (fScope st).names.lookup y = some .local then bindA ns bas y else none) H' fun f _ H' => Q f.val H') : CodeW c (.ref fa) as kn kas L H Q := by
 intro vs ws hv hw R s S
 obtain ⟨bv, hbv, hbind⟩ := hb vs ws hv hw
 obtain ⟨m, news, Rx, F, N, hin, hsep, back⟩ := S.ground
 refine code_defC S.ok.below F S.ok.kin N S.ok.top S.ok.frames S.ok.frame S.ok.fkind ho hcd (room_lt S.ok.room hroom) (hbind s S.kin) ?_ hnd (fun g L' h₁ tk cells FG F' N' Y B' KG TG hlt => ?_) hco hgen hk
 ·refine List.all_eq_true.mpr fun y hy => ?_
  obtain ⟨x, v⟩ := y
  exact List.all_eq_true.mp hloc x (List.of_mem_zip hy).1
 ·let d' : Dy := { w := c.d.w, A := c.d.A.deeper (envOfC qual (fScope st) L' fa (.ref cda)), A₀ := c.d.A, base := c.d.base, h₀ := g, outer := c.d.fenv :: c.d.outer, env := envOfC qual (fScope st) L' fa (.ref cda), mg := c.d.mg, mb := c.d.mb, mean := c.d.mean, os := c.d.os, room := c.d.room - 1, comp := false, fenv := envOfC qual (fScope st) L' fa (.ref cda), fm := fun _ => none }
  let cl := cellsFrom (L' + 1) (fScope st).names []
  let c' : Cx := ⟨d', (fScope st).names, cl⟩
  have ok' : c'.d.Ok c'.ns c'.cl := ⟨B', KG, TG, Around.frames_deeper S.ok.frames, S.ok.handled, rfl, hk, fun _ => rfl, (fun e => nomatch e), hk, rfl, rfl, rfl, rfl, room_deep S.ok.room hroom, units_deep S.ok.units hroom⟩
  have kind : ∀ x, (envOfC qual (fScope st) L' fa (.ref cda)).kindOf x = (fScope st).names.lookup x := fun _ => rfl
  obtain ⟨Y1, Y2⟩ := CellsAre.mem Y
  obtain ⟨A1, A2⟩ := cellsFrom_addr (fScope st).names (L' + 1) [] (fun p hp => nomatch hp) (fun x y a hx => nomatch hx)
  have hcl : ∀ x a, (x, a) ∈ cl → H a = none := fun x a hx => by
   have h1 : L' + 1 ≤ a := by rcases A2 _ hx with h | h; cases h; exact h
   cases q : H a with
   | none => rfl
   | some ao =>
    obtain ⟨o, ho, _⟩ := hin a ao q
    have := hlt _ (List.mem_append_left _ ho)
    exact absurd (Nat.lt_of_lt_of_le this (Nat.le_of_succ_le h1)) (Nat.lt_irrefl _)
  have hfind : ∀ x a, (x, a) ∈ cl → addCells H cl (bindA ns bas) a = some (.cell (bindA ns bas x)) := fun x a hx => by
   unfold addCells
   cases hf : cl.find? (fun p => p.2 == a) with
   | none => exact absurd (List.find?_eq_none.mp hf _ hx) (by simp)
   | some p =>
    have h1 := List.mem_of_find?_eq_some hf
    have h2 := List.find?_some hf
    have e2 : p.2 = a := by simpa using h2
    obtain ⟨y, b⟩ := p
    cases e2
    rw [A1 _ _ _ h1 hx]
  have hold : ∀ a, addCells H cl (bindA ns bas) a = H a ∨ ∃ x, (x, a) ∈ cl ∧ addCells H cl (bindA ns bas) a = some (.cell (bindA ns bas x)) := fun a => by
   cases hf : cl.find? (fun p => p.2 == a) with
   | none => left; unfold addCells; rw [hf]
   | some p =>
    have h1 := List.mem_of_find?_eq_some hf
    have h2 := List.find?_some hf
    have e2 : p.2 = a := by simpa using h2
    obtain ⟨y, b⟩ := p
    cases e2
    exact .inr ⟨y, h1, hfind _ _ h1⟩
  have hle : HLe H (addCells H cl (bindA ns bas)) := fun a ao e => by
   rcases hold a with h | ⟨x, hx, _⟩
   ·rw [h]; exact e
   ·rw [hcl x a hx] at e; cases e
  have S' : Sim c' (fun y => if (fScope st).names.lookup y = some .local then bindA ns bas y else none) (addCells H cl (bindA ns bas)) Rx { s with heap := h₁, toks := tk } := by
   refine ⟨ok', ⟨_, F', fun x av e => ?_⟩, fun p hp => N' p (List.mem_append_right _ (List.mem_append_right _ hp)), fun a ao e => ?_, ?_, fun p hp => ?_, S.gens, S.os, (fun e => nomatch e)⟩
   ·replace e : (if (fScope st).names.lookup x = some .local then bindA ns bas x else none) = some av := e
    by_cases hx : (fScope st).names.lookup x = some .local
    ·rw [if_pos hx] at e
     have eb := bindL_eq (kindOf := (envOfC qual (fScope st) L' fa (.ref cda)).kindOf) hx (ns.zip bv) fun _ => none
     rcases bindA_rel (ns := ns) hbv x with ⟨e1, _⟩ | ⟨a, v, e1, e2, r⟩
     ·rw [e1] at e; cases e
     ·rw [e1] at e; cases e; exact ⟨v, eb.trans (by rw [e2]; rfl), r⟩
    ·rw [if_neg hx] at e; cases e
   ·rcases hold a with h | ⟨x, hx, h⟩
    ·rw [h] at e
     obtain ⟨o, ho, hr⟩ := hin a ao e
     have := N' _ (List.mem_append_right _ (List.mem_append_left _ ho))
     exact ⟨o, this.1, this.2.1, this.2.2, hr⟩
    ·rw [h] at e
     cases e
     obtain ⟨o, ho, hd⟩ := Y1 x a hx
     have := N' _ (List.mem_append_left _ ho)
     refine ⟨o, this.1, this.2.1, this.2.2, ?_⟩
     have hxc : (fScope st).names.lookup x = some .cell := by
      rcases cellsFrom_keys _ _ _ _ _ hx with h | h
      ·cases h
      ·exact hcn _ h rfl
     rw [bindC_eq (kindOf := (envOfC qual (fScope st) L' fa (.ref cda)).kindOf) (by rw [kind, hxc]; exact fun z => nomatch z)] at hd
     rcases bindA_rel (ns := ns) hbv x with ⟨e1, e2⟩ | ⟨a, v, e1, e2, r⟩
     ·rw [e1]; rw [e2] at hd; exact hd
     ·rw [e1]; rw [e2] at hd; exact ⟨v, hd, r⟩
   ·obtain ⟨dm, hdm⟩ := S.fin
    refine ⟨cl.map (·.2) ++ dm, fun a ha => ?_⟩
    rcases hold a with h | ⟨x, hx, h⟩
    ·rw [h] at ha; exact List.mem_append_right _ (hdm a ha)
    ·exact List.mem_append_left _ (List.mem_map.mpr ⟨_, hx, rfl⟩)
   ·rcases hold p.1 with h | ⟨x, hx, h⟩
    ·rw [h]; exact hsep p hp
    ·have h1 : L' + 1 ≤ p.1 := by rcases A2 _ hx with h | h; cases h; exact h
     have := hlt _ (List.mem_append_right _ hp)
     exact absurd (Nat.lt_of_lt_of_le this (Nat.le_of_succ_le h1)) (Nat.lt_irrefl _)
  have := (k c' (L' + 1) _ rfl rfl (Nat.sub_add_cancel hroom) rfl hle (fun x a hx => ⟨hcl x a hx, hfind x a hx⟩)).run (E := fun e s' => wpAny (model prg c.d.w) d'.A (leaving d'.env e) (fun _ s'' => RetP c L R Q (.error e) s'') (fun e' s'' => RetP c L R Q (.error e') s'') s') S'
   (P := fun fl s' => LeaveK c.d.h₀ c.d.F m g (RetP c L R Q) (match fl with | .ret v => v | _ => .none) s') fun f af L'' H'' s' hf S2 q => ?_
  ·exact this
  ·obtain ⟨m2, F2, _⟩ := S2.fr
   obtain ⟨news2, N2, hin2, _⟩ := S2.news
   have hv : VRel af.val (match (motive := Flow → Value) f with | .ret v => v | _ => .none) := by
    cases af with
    | next => cases hf; rfl
    | brk => cases hf; rfl
    | cont => cases hf; rfl
    | ret a => obtain ⟨v, rfl, hv⟩ := hf; exact hv
   exact leaveK_ F2 N2 fun F3 N3 => ⟨_, H'', hv, back s' H'' news2 F3 N3 hin2 S2.fin S2.sep S2.gens (S2.os.trans S.os.symm), q⟩
theorem CodeW.enterCP {Q : AV → AH → Prop} {st : Stmt} {fa cda : Addr} {qual : Str} {dV pm : Value} {as kas : List AV} {kn ns : List Str} {bas : List AV}
  (ho : (KP c).lookup fa = some (fnO st qual dV pm (.ref cda))) (hcd : codeIn (KP c) (.ref cda) qual = true) (hroom : 1 ≤ c.d.room)
  (hb : ∀ vs ws, VRels as vs → VRels kas ws → ∃ bv, VRels bas bv ∧ ∀ s : Shared, (KP c).In s.heap → BindsTo s (fnOf (fName st) qual (fArgs st) (fBody st) (fScope st) dV .none .none pm none (.ref cda) .none) ⟨vs, kn.zip ws⟩ (ns.zip bv))
  (hloc : (ns.all fun x => (fScope st).names.lookup x == some .local || (fScope st).names.lookup x == some .cell) = true) (hnd : ((cellsFrom 0 (fScope st).names []).map (·.1)).Nodup)
  (hcn : ∀ x ∈ (fScope st).names, x.2 = .cell → (fScope st).names.lookup x.1 = some .cell)
  (hco : (fScope st).isCoroutine = false) (hgen : (fScope st).isGenerator = false) (hk : (fScope st).kind = .function)
  (k : ∀ (d : Dy) (n : Nat) (H' : AH), d.room + 1 = c.d.room → d.w = c.d.w → HLe H H' → (∀ x a, (x, a) ∈ cellsFrom n (fScope st).names [] → H a = none ∧ H' a = some (.cell (bindA ns bas x))) → ∀ P, FinP Q P →
   SS ⟨d, (fScope st).names, cellsFrom n (fScope st).names []⟩ (fBody st) (fun y => if (fScope st).names.lookup y = some .local then bindA ns bas y else none) H' P) : CodeW c (.ref fa) as kn kas L H Q :=
 CodeW.enterC ho hcd hroom hb hloc hnd hcn hco hgen hk fun c' n H' e1 e2 e3 e4 h1 h2 => by
  obtain ⟨d, x, l⟩ := c'
  subst e1 e2
  exact k d n H' e3 e4 h1 h2 _ (.of Q)
end
end
section
open PySem PySem.W PySem.Calls PyProof.Rows PySem.SeqAt
section
variable {c : Cx} {L : AL} {H : AH} {R : List (Addr × Obj)} {s : Shared} {Q : AV → AH → Prop} {P : Bool → AH → Prop}
theorem OpW.addL {a b : Addr} {as bs : List AV} (ha : H a = some (.list as)) (hb : H b = some (.list bs)) (hz : as.length + bs.length ≤ 1000000) (h : ∀ x, H x = none → Q (.ref x) (hset H x (.list (as ++ bs)))) : OpW c .Add (.ref a) (.ref b) L H Q := by
 rintro _ _ rfl rfl R s S
 obtain ⟨_, ga, _, _, vs, na, rfl, hv⟩ := S.hp _ _ ha
 obtain ⟨_, gb, _, _, ws, nb, rfl, hw⟩ := S.hp _ _ hb
 have e1 := hv.length
 have e2 := hw.length
 refine PySem.P.add_list ga gb ?_ (by rw [List.size_toArray, List.size_toArray, ← e1, ← e2]; exact Nat.le_trans hz (by decide))
 obtain ⟨n, S'⟩ := S.push (ao := .list (as ++ bs)) (o := listOf (vs.toArray ++ ws.toArray) 0) ⟨vs ++ ws, 0, by simp, hv.append hw⟩
 exact ⟨.ref _, _, rfl, S', h _ n⟩
noncomputable def pairEq (H : AH) (p : W × W) : Value → Bool
 | .ref b => match H b with
  | some (.tup [.str x, .str y]) => x == S p.1 && y == S p.2
  | _ => false
 | _ => false
theorem pairEq_of {H : AH} {p q : W × W} {b : Addr} (h : H b = some (.tup [.str (S q.1), .str (S q.2)])) : pairEq H p (.ref b) = (q == p) := by
 show (match H b with | some (.tup [.str x, .str y]) => x == S p.1 && y == S p.2 | _ => false) = _
 rw [h]
 show (S q.1 == S p.1 && S q.2 == S p.2) = _
 rw [S_beq, S_beq]
 rfl
theorem pairs_any {H : AH} {p : W × W} {xs : List AV} {ps : List (W × W)} {vs : List Value} (hx : All2 (PairAt H) xs ps) (hv : VRels xs vs) : (∀ y ∈ vs, ∃ b q, y = .ref b ∧ H b = some (.tup [.str (S (Prod.fst q)), .str (S (Prod.snd q))])) ∧ vs.any (pairEq H p) = ps.contains p := by
 induction hx generalizing vs with
 | nil => cases hv; exact ⟨(fun _ h => nomatch h), rfl⟩
 | @cons _ q _ _ h t ih =>
  cases hv with
  | cons hv tv =>
   obtain ⟨b, rfl, g⟩ := h
   cases hv
   refine ⟨List.forall_mem_cons.mpr ⟨⟨b, q, rfl, g⟩, (ih tv).1⟩, ?_⟩
   rw [List.any_cons, (ih tv).2, pairEq_of g, List.contains_cons]
   congr 1
   rw [Bool.eq_iff_iff]
   simp only [beq_iff_eq]
   exact eq_comm
theorem EqW.pair {a b : Addr} {p q : W × W} (ha : H a = some (.tup [.str (S p.1), .str (S p.2)])) (hb : H b = some (.tup [.str (S q.1), .str (S q.2)])) : EqW 1 H (.ref a) (.ref b) (p == q) := by
 have := EqW.tup (n := 0) (fun x y => match x, y with | .str x, .str y => x == y | _, _ => true) ha hb (fun x y hx hy => ?_) (fun x hx => ?_)
 ·have e : allEq [AV.str (S p.1), .str (S p.2)] [AV.str (S q.1), .str (S q.2)] (fun x y => match x, y with | .str x, .str y => x == y | _, _ => true) = (p == q) := by
   show (S p.1 == S q.1 && (S p.2 == S q.2 && true)) = _
   rw [S_beq, S_beq, Bool.and_true]; rfl
  rwa [e] at this
 ·simp only [List.mem_cons, List.not_mem_nil, or_false] at hx hy
  rcases hx with rfl | rfl <;> rcases hy with rfl | rfl <;> (show EqW 0 H _ _ (S _ == S _); rw [S_beq]; exact EqW.str _ _)
 ·simp only [List.mem_cons, List.not_mem_nil, or_false] at hx
  rcases hx with rfl | rfl <;> simp
theorem CmpW.inPairs {x : AV} {p : W × W} {l : Addr} {xs : List AV} {ps : List (W × W)} (hx : PairAt H x p) (hl : H l = some (.list xs)) (ha : All2 (PairAt H) xs ps) (h : P (ps.contains p) H) : CmpW c .In x (.ref l) L H P := by
 obtain ⟨ax, rfl, gx⟩ := hx
 rintro _ _ rfl rfl R s S
 obtain ⟨vs, hv, hL⟩ := isL S hl
 obtain ⟨k1, k2⟩ := pairs_any (p := p) ha hv
 refine in_listAt (pairEq H p) hL (fun y hy => ?_) ?_
 ·obtain ⟨b, q, rfl, g⟩ := k1 y (by simpa using hy)
  rw [pairEq_of g]
  exact EqW.pair g gx c L R s _ _ _ (units_lt (k := 2) S.ok.units (by decide)) S rfl rfl
 ·rw [List.any_toArray, k2]
  exact ⟨.bool _, H, rfl, S, _, rfl, h⟩
theorem min_cast (a b : Nat) : min (a : Int) (b : Int) = ((min a b : Nat) : Int) := by
 rcases Nat.le_total a b with h | h
 ·rw [Nat.min_eq_left h, Int.min_eq_left (Int.ofNat_le.mpr h)]
 ·rw [Nat.min_eq_right h, Int.min_eq_right (Int.ofNat_le.mpr h)]
theorem pick_take (vs : List Value) (k : Nat) : slicePick vs.toArray none (some (k : Int)) none = (vs.take k).toArray := by
 have h : sliceBounds none (some (k : Int)) none vs.toArray.size = (((0 : Nat) : Int), ((min k vs.length : Nat) : Int), 1) := by
  show ((0 : Int), max 0 (min (if (k : Int) < 0 then _ else (k : Int)) (vs.length : Int)), (1 : Int)) = _
  rw [if_neg (Int.not_lt.mpr (Int.natCast_nonneg k)), min_cast, Int.max_eq_right (Int.natCast_nonneg _)]; rfl
 rw [kmk_pick_nat _ h, Nat.sub_zero, List.drop_zero]
 show (vs.take (min k vs.length)).toArray = _
 rw [List.take_eq_take_min.symm]
inductive SuG (c : Cx) (L : AL) (k : Nat) (Q : AV → AH → Prop) (a : AV) (H1 : AH) : Prop
 | mk' (l : Addr) (xs : List AV) (e : a = .ref l) (hl : ∀ R s, Sim c L H1 R s → ∃ vs, VRels xs vs ∧ s.heap.IsList l vs.toArray) (hz : xs.length ≤ 1000000) (q : ∀ D, H1 D = none → Q (.ref D) (hset H1 D (.list (xs.take k))))
inductive SuL (k : Nat) (Q : AV → AH → Prop) (a : AV) (H1 : AH) : Prop
 | mk' (l : Addr) (xs : List AV) (e : a = .ref l) (hl : H1 l = some (.list xs)) (hz : xs.length ≤ 1000000) (q : ∀ D, H1 D = none → Q (.ref D) (hset H1 D (.list (xs.take k))))
theorem EW.subToG {e : Expr} {k : Nat} {kk : Nat} {p sp pos : Pos} (h : EW c e L H (SuG c L k Q))
  (hs : ∀ o i, subscripted (.Slice none (some (.Constant (.int (k : Int)) kk p)) none sp) false o i = operate [i, o] (getItem o i) := by intro _ _; with_unfolding_all rfl)
  (ht : ∀ o r, letTemporaryGo e o r = pure () := by intro _ _; with_unfolding_all rfl) : EW c (.Subscript e (.Slice none (some (.Constant (.int (k : Int)) kk p)) none sp) pos) L H Q := fun R s S =>
 Subscript_ (h.run S fun v a H1 s1 hv S1 zz => by
  obtain ⟨l, xs, ea, hl, hz, q⟩ := zz
  subst ea
  cases hv
  obtain ⟨vs, hv, hL⟩ := hl _ _ S1
  have e1 := hv.length
  refine wpAny_Slice (wpAny_pure ?_)
  show wpAny _ _ (eval (.Constant (.int (k : Int)) kk p) c.d.env) _ _ _
  refine wpAny_Constant_int (wpAny_pure ?_)
  refine subscriptTail_ops (Heap.IsList.typeIs (hL.push _)) list_getitem_lookup (wpAny_getItem_list_slice (hL.push _) (Heap.IsSliceOf.new ..) .none (.int _ _) .none (by simp) ?_ (by rw [List.size_toArray, ← e1]; exact Nat.le_trans hz (by decide))) (hs _ _) (ht _)
  rw [pick_take]
  obtain ⟨hn1, S2⟩ := S1.toks (tk := s1.toks + 1) |>.pushR (o := { cls := .type "slice", data := .fields #[.none, .int (k : Int) s1.toks, .none] }) rfl
  have S3 := S2.dropR (R' := R) fun p hp => .tail _ hp
  obtain ⟨n2, S4⟩ := S3.push (ao := .list (xs.take k)) (o := listOf (vs.take k).toArray 0) ⟨vs.take k, 0, rfl, hv.take k⟩
  exact ⟨.ref _, _, rfl, S4, q _ n2⟩)
theorem EW.subTo {e : Expr} {k : Nat} {kk : Nat} {p sp pos : Pos} (h : EW c e L H (SuL k Q))
  (hs : ∀ o i, subscripted (.Slice none (some (.Constant (.int (k : Int)) kk p)) none sp) false o i = operate [i, o] (getItem o i) := by intro _ _; with_unfolding_all rfl)
  (ht : ∀ o r, letTemporaryGo e o r = pure () := by intro _ _; with_unfolding_all rfl) : EW c (.Subscript e (.Slice none (some (.Constant (.int (k : Int)) kk p)) none sp) pos) L H Q :=
 EW.subToG (h.mono fun _ _ hx => by obtain ⟨l, xs, e, hl, hz, q⟩ := hx; exact ⟨l, xs, e, fun _ _ S => isL S hl, hz, q⟩) hs ht
structure Own (Hd : AH) (ow : List (Addr × AObj)) (H : AH) : Prop where
 get : ∀ p ∈ ow, H p.1 = some p.2
 non : ∀ p ∈ ow, Hd p.1 = .none
 same : ∀ a, (∀ p ∈ ow, p.1 ≠ a) → H a = Hd a
 nd : (ow.map (·.1)).Nodup
namespace Own
variable {Hd : AH} {ow : List (Addr × AObj)}
theorem nil (H : AH) : Own H [] H := ⟨(fun _ h => nomatch h), (fun _ h => nomatch h), fun _ _ => rfl, .nil⟩
theorem le (w : Own Hd ow H) : HLe Hd H := fun a o e => (w.same a fun p hp q => by have := w.non p hp; rw [q, e] at this; cases this).trans e
theorem back (w : Own Hd ow H) {a : Addr} (h : H a = .none) : Hd a = .none := w.le.back h
theorem alloc (w : Own Hd ow H) {a : Addr} {o : AObj} (h : H a = .none) : Own (hset Hd a o) ow (hset H a o) := by
 have ne : ∀ p ∈ ow, p.1 ≠ a := fun p hp q => by have := w.get p hp; rw [q, h] at this; cases this
 refine ⟨fun p hp => (hset_ne (ne p hp)).trans (w.get p hp), fun p hp => (hset_ne (ne p hp)).trans (w.non p hp), fun b hb => ?_, w.nd⟩
 by_cases q : b = a
 ·rw [q, hset_same, hset_same]
 ·rw [hset_ne q, hset_ne q]; exact w.same b hb
theorem add (w : Own Hd ow H) {a : Addr} {o : AObj} (h : H a = .none) : Own Hd ((a, o) :: ow) (hset H a o) := by
 have ne : ∀ p ∈ ow, p.1 ≠ a := fun p hp q => by have := w.get p hp; rw [q, h] at this; cases this
 refine ⟨fun p hp => ?_, fun p hp => ?_, fun b hb => ?_, ?_⟩
 ·rcases List.mem_cons.mp hp with rfl | hp
  ·exact hset_same _ _ _
  ·exact (hset_ne (ne p hp)).trans (w.get p hp)
 ·rcases List.mem_cons.mp hp with rfl | hp
  ·exact w.back h
  ·exact w.non p hp
 ·rw [hset_ne fun q => hb _ (.head _) q.symm]
  exact w.same b fun p hp => hb p (.tail _ hp)
 ·refine List.nodup_cons.mpr ⟨fun hm => ?_, w.nd⟩
  obtain ⟨p, hp, e⟩ := List.mem_map.mp hm
  exact ne p hp e
theorem put {a : Addr} {x y : AObj} {pre post : List (Addr × AObj)} (w : Own Hd (pre ++ (a, x) :: post) H) : Own Hd (pre ++ (a, y) :: post) (hset H a y) := by
 have hnd := w.nd
 rw [List.map_append, List.map_cons] at hnd
 have h1 := List.nodup_append.mp hnd
 have h2 := List.nodup_cons.mp h1.2.1
 have npre : ∀ p ∈ pre, p.1 ≠ a := fun p hp => h1.2.2 _ (List.mem_map.mpr ⟨p, hp, rfl⟩) _ (.head _)
 have npost : ∀ p ∈ post, p.1 ≠ a := fun p hp q => h2.1 (List.mem_map.mpr ⟨p, hp, q⟩)
 refine ⟨fun p hp => ?_, fun p hp => ?_, fun b hb => ?_, ?_⟩
 ·rcases List.mem_append.mp hp with hp | hp
  ·exact (hset_ne (npre p hp)).trans (w.get p (List.mem_append_left _ hp))
  ·rcases List.mem_cons.mp hp with rfl | hp
   ·exact hset_same _ _ _
   ·exact (hset_ne (npost p hp)).trans (w.get p (List.mem_append_right _ (.tail _ hp)))
 ·rcases List.mem_append.mp hp with hp | hp
  ·exact w.non p (List.mem_append_left _ hp)
  ·rcases List.mem_cons.mp hp with rfl | hp
   ·exact w.non (a, x) (List.mem_append_right _ (.head _))
   ·exact w.non p (List.mem_append_right _ (.tail _ hp))
 ·have hba : b ≠ a := fun q => hb _ (List.mem_append_right _ (.head _)) q.symm
  rw [hset_ne hba]
  refine w.same b fun p hp => ?_
  rcases List.mem_append.mp hp with hp | hp
  ·exact hb p (List.mem_append_left _ hp)
  ·rcases List.mem_cons.mp hp with rfl | hp
   ·exact fun q => hba q.symm
   ·exact hb p (List.mem_append_right _ (.tail _ hp))
 ·have := w.nd
  rw [List.map_append, List.map_cons] at this ⊢
  exact this
theorem put0 {a : Addr} {x y : AObj} {post : List (Addr × AObj)} (w : Own Hd ((a, x) :: post) H) : Own Hd ((a, y) :: post) (hset H a y) := w.put (pre := [])
theorem put1 {a : Addr} {p : Addr × AObj} {x y : AObj} {post : List (Addr × AObj)} (w : Own Hd (p :: (a, x) :: post) H) : Own Hd (p :: (a, y) :: post) (hset H a y) := w.put (pre := [p])
theorem put2 {a : Addr} {p q : Addr × AObj} {x y : AObj} {post : List (Addr × AObj)} (w : Own Hd (p :: q :: (a, x) :: post) H) : Own Hd (p :: q :: (a, y) :: post) (hset H a y) := w.put (pre := [p, q])
theorem tail {p : Addr × AObj} (w : Own Hd (p :: ow) H) : Own Hd ow (hdel H p.1) := by
 have h2 := List.nodup_cons.mp w.nd
 have ne : ∀ q ∈ ow, q.1 ≠ p.1 := fun q hq e => h2.1 (List.mem_map.mpr ⟨q, hq, e⟩)
 refine ⟨fun q hq => (hdel_ne (ne q hq)).trans (w.get q (.tail _ hq)), fun q hq => w.non q (.tail _ hq), fun b hb => ?_, h2.2⟩
 by_cases e : b = p.1
 ·rw [e, hdel_self]; exact (w.non p (.head _)).symm
 ·rw [hdel_ne e]
  refine w.same b fun q hq => ?_
  rcases List.mem_cons.mp hq with rfl | hq
  ·exact fun z => e z.symm
  ·exact hb q hq
end Own
theorem Own.of2 {a b : Addr} {x y : AObj} (ha : H a = some x) (hb : H b = some y) (hne : a ≠ b) : Own (hdel (hdel H a) b) [(a, x), (b, y)] H := by
 refine ⟨fun p hp => ?_, fun p hp => ?_, fun d hd => ?_, by simp [hne]⟩
 ·simp only [List.mem_cons, List.not_mem_nil, or_false] at hp
  rcases hp with rfl | rfl <;> assumption
 ·simp only [List.mem_cons, List.not_mem_nil, or_false] at hp
  rcases hp with rfl | rfl
  ·exact (hdel_ne hne).trans (hdel_self _ _)
  ·exact hdel_self _ _
 ·rw [hdel_ne (Ne.symm (hd _ (.tail _ (.head _)))), hdel_ne (Ne.symm (hd _ (.head _)))]
inductive OwnP (Q : AV → AH → Prop) (ow : List (Addr × AObj)) (v : AV) (H' : AH) : Prop
 | mk' (H1 : AH) (q : Q v H1) (w : Own H1 ow H')
theorem TW.own {t : Sem Value} {Q : AV → AH → Prop} : ∀ {ow : List (Addr × AObj)} {Hd H : AH}, Own Hd ow H → TW c t L Hd Q → TW c t L H (OwnP Q ow)
 | [], Hd, H, w, h => by
  have e : H = Hd := funext fun a => w.same a (fun _ hp => nomatch hp)
  subst e
  exact h.mono fun v H' q => ⟨H', q, .nil _⟩
 | p :: ow, Hd, H, w, h => (TW.frame (w.get p (.head _)) (TW.own w.tail h)).mono fun v H' zz => by
  obtain ⟨H2, ⟨H1, q, w1⟩, n2, e⟩ := zz
  subst e
  exact ⟨H1, q, w1.add n2⟩
theorem CallW.own {f : Value} {as : List AV} {ow : List (Addr × AObj)} {Hd : AH} {Q : AV → AH → Prop} (w : Own Hd ow H) (h : CallW c f as L Hd Q) : CallW c f as L H (OwnP Q ow) := fun vs hv => (h vs hv).own w
end
end
section
set_option maxHeartbeats 4000000
theorem f855 (P) : (Kf P).lookup 855 = some (fnO (topS 37) (o "_law_held") .none (.str (o "law_oy0424_01") 1358) (.ref 854)) := rfl
theorem g855 (P) : codeIn (Kf P) (.ref 854) (o "_law_held") = true := rfl
section
variable {c : Cx} {L : AL} {H : AH}
structure Grow (H0 : AH) (hh : Addr) (nds : List Nd) (H : AH) : Prop where
 fresh : H0 hh = none
 at' : ∃ vs, H hh = some (.list vs) ∧ All2 (NdAt (hdel H hh)) vs nds
 le : HLe H0 H
theorem Grow.step {H0 H H1 H' : AH} {hh : Addr} {nds : List Nd} {nd : Nd} {v : AV} (g : Grow H0 hh nds H) (k : HLe H H1) (hn : NdAt (hdel H1 hh) v nd) {vs : List AV} (hv : H hh = some (.list vs)) (e : H' = hset H1 hh (.list (vs ++ [v]))) : Grow H0 hh (nds ++ [nd]) H' := by
 obtain ⟨fr, ⟨ws, hw, ha⟩, le⟩ := g
 rw [hv] at hw
 cases hw
 subst e
 have e : hdel (hset H1 hh (.list (vs ++ [v]))) hh = hdel H1 hh := by
  funext b
  by_cases q : b = hh
  ·rw [q, hdel_self, hdel_self]
  ·rw [hdel_ne q, hdel_ne q, hset_ne q]
 refine ⟨fr, ⟨_, hset_same _ _ _, ?_⟩, HLe.mut fr (le.trans k)⟩
 rw [e]
 refine (ha.mono fun _ _ => NdAt.mono ?_).append (.one hn)
 intro b ob q
 by_cases q' : b = hh
 ·rw [q', hdel_self] at q; cases q
 ·rw [hdel_ne q'] at q ⊢
  exact k _ _ q
theorem hdel_hset_none {H : AH} {a : Addr} {o : AObj} (h : H a = none) : hdel (hset H a o) a = H := by
 funext b
 by_cases q : b = a
 ·rw [q, hdel_self, h]
 ·rw [hdel_ne q, hset_ne q]
theorem Grow.mono {H0 H H1 : AH} {hh : Addr} {nds : List Nd} (g : Grow H0 hh nds H) (k : HLe H H1) : Grow H0 hh nds H1 := by
 obtain ⟨fr, ⟨ws, hw, ha⟩, le⟩ := g
 refine ⟨fr, ⟨ws, k _ _ hw, ha.mono fun _ _ => NdAt.mono fun b ob q => ?_⟩, le.trans k⟩
 by_cases q' : b = hh
 ·rw [q', hdel_self] at q; cases q
 ·rw [hdel_ne q'] at q ⊢
  exact k _ _ q
theorem heldA_len (row : Row) : (heldA row).length ≤ 1 := by unfold heldA; split <;> simp
theorem heldC_len (row : Row) : (heldC row).length ≤ 1 := by unfold heldC; split <;> simp
theorem heldD_len (row : Row) : (heldD row).length ≤ 1 := by unfold heldD; split <;> simp
theorem heldC_some {row : Row} {p : Int × Int} (h : row.rates.getLast? = some p) : heldC row = [⟨[2], none, lit "Request-rate: " ++ rateW p, [lit "Request-rate:", rateW p]⟩] := by unfold heldC; rw [h]
theorem heldD_some {row : Row} {p : Int} (h : row.delays.getLast? = some p) : heldD row = [⟨[1], none, lit "Crawl-delay: " ++ numW p, [lit "Crawl-delay:", numW p]⟩] := by unfold heldD; rw [h]
theorem heldC_none {row : Row} {X : List Nd} (h : row.rates.getLast? = none) : X ++ heldC row = X := by unfold heldC; rw [h]; exact List.append_nil _
theorem heldD_none {row : Row} {X : List Nd} (h : row.delays.getLast? = none) : X ++ heldD row = X := by unfold heldD; rw [h]; exact List.append_nil _
theorem ruleNd_pos {rows : List Row} {k ch : Nat} {x : W × W} (h : 0 < ch) : ruleNd rows k (ch, x) = ⟨[3, k], rows[ch]?, lit "", []⟩ := if_pos h
theorem ruleNd_neg {rows : List Row} {k ch : Nat} {x : W × W} (h : ¬ 0 < ch) : ruleNd rows k (ch, x) = ⟨[3, k], none, lit "Disallow: " ++ x.1, [lit "Disallow:", x.2]⟩ := if_neg h
theorem Grow.to {H0 H : AH} {hh : Addr} {nds nds' : List Nd} (e : nds' = nds) (g : Grow H0 hh nds H) : Grow H0 hh nds' H := by rw [e]; exact g
theorem NdAt.to {H : AH} {v : AV} {nd nd' : Nd} (e : nd' = nd) (g : NdAt H v nd) : NdAt H v nd' := by rw [e]; exact g
theorem last_some {α : Type} {l : List α} {p : α} (h : l.getLast? = some p) : l.isEmpty = false := by cases l with
 | nil => cases h
 | cons => rfl
theorem last_none {α : Type} {l : List α} (h : l.getLast? = none) : l.isEmpty = true := by cases l with
 | nil => rfl
 | cons => simp at h
theorem not_t {a b : Bool} (e : a = b) (h : b = false) : (!a) = true := by rw [e, h]; rfl
theorem not_f {a b : Bool} (e : a = b) (h : b = true) : ¬ (!a) = true := by rw [e, h]; decide
section
variable {rows : List Row} {row : Row} {vs : List AV} {P : AV → Nd → Prop} {i : Nat} (hr : RowOk row)
include hr
theorem vl1 (h : All2 P vs (heldA row ++ imap (ruleNd rows) (row.rules.take i))) : vs.length ≤ 1000000 := by
 rw [h.length, List.length_append, imap_len, List.length_take]
 exact Nat.le_trans (Nat.add_le_add (heldA_len row) (Nat.le_trans (Nat.min_le_right ..) hr.count.2)) (by decide)
theorem vl3 (h : All2 P vs (heldA row ++ imap (ruleNd rows) row.rules ++ heldC row ++ heldD row ++ imap agentNd (row.agents.take i))) : vs.length ≤ 1000000 := by
 rw [h.length, List.length_append, List.length_append, List.length_append, List.length_append, imap_len, imap_len, List.length_take]
 exact Nat.le_trans (Nat.add_le_add (Nat.add_le_add (Nat.add_le_add (Nat.add_le_add (heldA_len row) hr.count.2) (heldC_len row)) (heldD_len row)) (Nat.le_trans (Nat.min_le_right ..) hr.count.1)) (by decide)
theorem vl2 (h : All2 P vs (heldA row ++ imap (ruleNd rows) row.rules ++ heldC row)) : vs.length ≤ 1000000 := by
 rw [h.length, List.length_append, List.length_append, imap_len]
 exact Nat.le_trans (Nat.add_le_add (Nat.add_le_add (heldA_len row) hr.count.2) (heldC_len row)) (by decide)
theorem vl0 (h : All2 P vs (heldA row ++ imap (ruleNd rows) row.rules)) : vs.length ≤ 1000000 := by
 rw [h.length, List.length_append, imap_len]
 exact Nat.le_trans (Nat.add_le_add (heldA_len row) hr.count.2) (by decide)
end
theorem snocN {X : List Nd} {α : Type} {f : Nat → α → Nd} {l : List α} {i : Nat} {a : α} (h : l[i]? = some a) : X ++ imap f (l.take (i + 1)) = X ++ imap f (l.take i) ++ [f i a] := by rw [imap_take _ _ h, ← List.append_assoc]
theorem s60 {n : Nat} (h : n ≤ 60) : n ≤ 1000000 := Nat.le_trans h (by decide)
theorem ORowAt.del {H0 H : AH} {hh : Addr} {v : AV} {r : Option Row} (fr : H0 hh = none) (k : HLe H0 H) (h : ORowAt H0 v r) : ORowAt (hdel H hh) v r := h.mono (HLe.del fr k)
inductive M855 (H : AH) (x rx : Addr) (nds : List Nd) (L1 : AL) (H1 : AH) : Prop
 | mk' (hh : Addr) (e1 : L1 (o "held") = some (.ref hh)) (e2 : L1 (o "row") = some (.ref x)) (e3 : L1 (o "rows") = some (.ref rx)) (g : Grow H hh nds H1)
theorem c855 {rw' : Addr} {rs : AV} {rows : List Row} {row : Row} (hroom : 1 ≤ c.d.room) (hrow : RowAt H (.ref rw') row) (hrows : RowsAt H rs rows) (hok : RowsOk rows) (hr : RowOk row) (hc : ∀ p ∈ row.rules, p.1 < rows.length) :
  CodeW c (.ref 855) [.ref rw', rs] [] [] L H (LstP NdAt H (held rows row)) := by
 refine CodeW.enterP (ns := [o "row", o "rows"]) (bas := [.ref rw', rs]) (f855 _) (g855 _) (by first | exact room_1 hroom tt | omega) (fun vs ws hv hw => ?_) (by rfl) (by rfl) (by rfl) (by rfl) (by rfl) fun d hrm _ Pf hPf => ?_
 ·exact bind2 hv fun _ _ _ _ => BindsTo.of_eq (by rfl)
 conv in fBody _ => whnf
 obtain ⟨x, a, dl, t, u, la, lt, lu, e, hx, ha, hal, hdl, ht, htl, hu, hul⟩ := hrow
 cases e
 obtain ⟨rx, rl, rfl, hrx, hrl⟩ := hrows
 have hlu : lu.isEmpty = row.rules.isEmpty := hul.isEmpty
 refine SS.seq (M855 H rw' rx (heldA row)) (fun _ hPs => ?_) ?_
 ·repeat walk_at "f"
  refine SbW.list hx (by decide) (x := .ref u) rfl (by exact Nat.le_of_ble_eq_true tt) ?_
  repeat walk_at "f"
  refine ⟨Nat.le_of_ble_eq_true tt, fun a1 h1 => ?_⟩
  refine CmpW.eqNil (by walk_at "hk") (by walk_at "hk") ?_
  rw [hlu]
  cases hemp : row.rules.isEmpty
  ·repeat walk_at "f"
   first | with_reducible refine if_f (by decide) ?_ | with_reducible refine IfK.f (by decide) ?_ | with_reducible refine IteK.f (by decide) ?_ | rw [if_neg (by decide)]
   repeat walk_at "f"
   refine ⟨Nat.le_of_ble_eq_true tt, fun a2 h2 => ?_⟩
   repeat walk_at "f"
   have h2' : H a2 = none := hset_none h2
   refine ⟨rfl, a2, by walk_at "lk", by walk_at "lk", by walk_at "lk", h2', ⟨[], by walk_at "hk", ?_⟩, by walk_at "le"⟩
   unfold heldA
   first | with_reducible refine if_f (ne_true (hemp)) ?_ | rw [hemp, if_neg (by decide)]
   exact .nil
  ·repeat walk_at "f"
   first | with_reducible refine if_t rfl ?_ | with_reducible refine IfK.t rfl ?_ | with_reducible refine IteK.t rfl ?_ | rw [if_pos rfl]
   repeat walk_at "f"
   refine ⟨Nat.le_of_ble_eq_true tt, fun a2 h2 => ?_⟩
   repeat walk_at "f"
   refine ⟨Nat.le_of_ble_eq_true tt, fun a3 h3 => ?_⟩
   repeat walk_at "f"
   refine ⟨Nat.le_of_ble_eq_true tt, fun a4 h4 => ?_⟩
   repeat walk_at "f"
   refine ⟨Nat.le_of_ble_eq_true tt, fun a5 h5 => ?_⟩
   repeat walk_at "f"
   refine ⟨Nat.le_of_ble_eq_true tt, fun a6 h6 => ?_⟩
   repeat walk_at "f"
   refine ⟨rfl, a6, by walk_at "lk", by walk_at "lk", by walk_at "lk", ?_, ⟨[.ref a5], by walk_at "hk", ?_⟩, by walk_at "le"⟩
   ·exact HLe.back (by walk_at "le") h6
   ·unfold heldA
    first | with_reducible refine if_t (hemp) ?_ | rw [hemp, if_pos rfl]
    have e : hdel (hset (hset (hset (hset (hset (hset H a1 (.list [])) a2 (.tup [.int 3])) a3 (.list [])) a4 (.list [.str (S (lit "Allow:"))])) a5 (.tup [.ref a2, .ref a3, .str (S (lit "Allow:")), .ref a4])) a6 (.list [.ref a5])) a6 = hset (hset (hset (hset (hset H a1 (.list [])) a2 (.tup [.int 3])) a3 (.list [])) a4 (.list [.str (S (lit "Allow:"))])) a5 (.tup [.ref a2, .ref a3, .str (S (lit "Allow:")), .ref a4]) := by
     rw [hdel_hset_none h6]
    rw [e]
    exact .one (.mk (by walk_at "hk") (by walk_at "hk") ⟨a3, rfl, by walk_at "hk"⟩ (by walk_at "hk") (by rfl) (by rfl) (by rfl))
 have rowK : ∀ {H1 : AH}, HLe H H1 → RowAt H1 (.ref rw') row ∧ True := fun k => ⟨RowAt.mono k ⟨rw', a, dl, t, u, la, lt, lu, rfl, hx, ha, hal, hdl, ht, htl, hu, hul⟩, trivial⟩
 have hnl : lu.length ≤ 60 := by rw [hul.length]; exact hr.count.2
 have hna : la.length ≤ 60 := by rw [hal.length]; exact hr.count.1
 rintro L1 H1 ⟨hh, e1, e2, e3, g⟩
 refine SS.seq (M855 H rw' rx (heldA row ++ imap (ruleNd rows) row.rules)) (fun _ hPs => ?_) ?_
 ·refine ST.forP ?_
  repeat walk_at "f"
  have gle := g.le
  refine SbW.list (by walk_at "hk") (by decide) (x := .ref u) rfl (by exact Nat.le_of_ble_eq_true tt) ?_
  repeat walk_at "f"
  refine CallW.lenL (by walk_at "hk") (leD hnl tt) ?_
  repeat walk_at "f"
  refine CallW.range1 fun r t1 t2 t3 hrn => ?_
  refine ⟨_, _, IterW.range (by walk_at "hk") (s60 hnl), fun i => M855 H rw' rx (heldA row ++ imap (ruleNd rows) (row.rules.take i)), ?_, fun _ _ _ _ => trivial, ?_, ?_⟩
  ·exact ⟨hh, e1, e2, e3, Grow.to (List.append_nil _) (g.mono (HLe.new hrn))⟩
  ·rintro i x L2 H2 hx2 Pk hPk ⟨hh2, f1, f2, f3, g2⟩
   have hi : i < lu.length := by have := (List.getElem?_eq_some_iff.mp hx2).1; rwa [upTo_len] at this
   rw [upTo_get hi] at hx2
   cases hx2
   have gle2 := g2.le
   obtain ⟨vs, hvs, hvn⟩ := g2.at'
   obtain ⟨ry, hry⟩ : ∃ p, lu[i]? = some p := ⟨_, List.getElem?_eq_getElem hi⟩
   obtain ⟨⟨ch, tx, wd⟩, hrr, ra, rfl, hra⟩ := hul.getL hry
   have hmem := List.mem_of_getElem? hrr
   have hok1 := hr.rules _ hmem
   repeat walk_at "f"
   refine SbW.list (by walk_at "hk") (by decide) (x := .ref u) rfl (by exact Nat.le_of_ble_eq_true tt) ?_
   repeat walk_at "f"
   refine SbW.list (by walk_at "hk") (Int.natCast_nonneg _) (by exact hry) (s60 hnl) ?_
   refine AsW.tup (by walk_at "hk") (by rfl) ?_
   refine d_ae ?_
   repeat walk_at "f"
   refine d_ae ?_
   repeat walk_at "f"
   refine d_ae ?_
   repeat walk_at "f"
   refine AsEach.nil ?_
   repeat walk_at "f"
   have hvl := vl1 hr hvn
   split
   ·rename_i hpos
    have hch : ch < rows.length := hc _ hmem
    obtain ⟨rc, hrc⟩ : ∃ p, rows[ch]? = some p := ⟨_, List.getElem?_eq_getElem hch⟩
    obtain ⟨rv, hrv, hrat⟩ := hrl.getR hrc
    have hrlen : rl.length ≤ 60 := by rw [hrl.length]; exact hok.2.2
    repeat walk_at "f"
    refine ⟨⟨⟨_, hvs⟩, rfl⟩, ?_⟩
    repeat walk_at "f"
    refine ⟨Nat.le_of_ble_eq_true tt, fun b1 h1 => ?_⟩
    repeat walk_at "f"
    refine SbW.list (x := rv) (by walk_at "hk") (Int.natCast_nonneg _) (by exact hrv) (s60 hrlen) ?_
    repeat walk_at "f"
    refine ⟨Nat.le_of_ble_eq_true tt, fun b2 h2 => ?_⟩
    repeat walk_at "f"
    refine ⟨Nat.le_of_ble_eq_true tt, fun b3 h3 => ?_⟩
    repeat walk_at "f"
    refine CallW.append (by walk_at "hk") hvl ?_
    repeat walk_at "f"
    refine ⟨trivial, hh2, by walk_at "lk", by walk_at "lk", by walk_at "lk", ?_⟩
    refine Grow.to (snocN hrr) ?_
    refine g2.step (by walk_at "le") ?_ hvs rfl
    have nh3 : b3 ≠ hh2 := ne_of h3 (o := .list vs) (by walk_at "hk")
    have nh1 : b1 ≠ hh2 := ne_of h1 (o := .list vs) (by walk_at "hk")
    have nh2 : b2 ≠ hh2 := ne_of h2 (o := .list vs) (by walk_at "hk")
    exact NdAt.to ((ruleNd_pos (by simpa using hpos)).trans (by rw [hrc])) (NdAt.mk ((hdel_ne (nh3)).trans (by walk_at "hk")) ((hdel_ne (nh1)).trans (by walk_at "hk")) (ORowAt.del g2.fresh (by walk_at "le") (show ORowAt H rv (some rc) from hrat)) ((hdel_ne (nh2)).trans (by walk_at "hk")) (by rfl) (by rfl) (by rfl))
   ·rename_i hpos
    repeat walk_at "f"
    refine ⟨⟨⟨_, hvs⟩, rfl⟩, ?_⟩
    repeat walk_at "f"
    refine ⟨Nat.le_of_ble_eq_true tt, fun b1 h1 => ?_⟩
    repeat walk_at "f"
    refine ⟨Nat.le_of_ble_eq_true tt, fun b2 h2 => ?_⟩
    repeat walk_at "f"
    refine OpW.addSS (addD (a := 10) (by decide +kernel) hok1.1 tt) ?_
    repeat walk_at "f"
    refine ⟨Nat.le_of_ble_eq_true tt, fun b4 h4 => ?_⟩
    repeat walk_at "f"
    refine ⟨Nat.le_of_ble_eq_true tt, fun b3 h3 => ?_⟩
    repeat walk_at "f"
    refine CallW.append (by walk_at "hk") hvl ?_
    repeat walk_at "f"
    refine ⟨trivial, hh2, by walk_at "lk", by walk_at "lk", by walk_at "lk", ?_⟩
    refine Grow.to (snocN hrr) ?_
    refine g2.step (by walk_at "le") ?_ hvs rfl
    have nh3 : b3 ≠ hh2 := ne_of h3 (o := .list vs) (by walk_at "hk")
    have nh1 : b1 ≠ hh2 := ne_of h1 (o := .list vs) (by walk_at "hk")
    have nh4 : b4 ≠ hh2 := ne_of h4 (o := .list vs) (by walk_at "hk")
    exact NdAt.to (ruleNd_neg (by simpa using hpos)) (NdAt.mk ((hdel_ne (nh3)).trans (by walk_at "hk")) ((hdel_ne (nh1)).trans (by walk_at "hk")) ⟨b2, rfl, (hdel_ne (ne_of h2 (o := .list vs) (by walk_at "hk"))).trans (by walk_at "hk")⟩ ((hdel_ne (nh4)).trans (by walk_at "hk")) (by rfl) (by rfl) (by rfl))
  ·rintro L2 H2 ⟨hh2, f1, f2, f3, g2⟩
   repeat walk_at "f"
   refine ⟨rfl, hh2, f1, f2, f3, ?_⟩
   rwa [upTo_len, hul.length, List.take_length] at g2
 clear g e1 e2 e3 L1 H1 hh
 rintro L1 H1 ⟨hh, e1, e2, e3, g⟩
 refine SS.seq (M855 H rw' rx (heldA row ++ imap (ruleNd rows) row.rules ++ heldC row)) (fun _ hPs => ?_) ?_
 ·have gle := g.le
  obtain ⟨vs, hvs, hvn⟩ := g.at'
  have hvl := vl0 hr hvn
  repeat walk_at "f"
  refine SbW.list (by walk_at "hk") (by decide) (x := .ref t) rfl (by exact Nat.le_of_ble_eq_true tt) ?_
  repeat walk_at "f"
  refine ⟨Nat.le_of_ble_eq_true tt, fun b0 h0 => ?_⟩
  refine CmpW.neNil (by walk_at "hk") (by walk_at "hk") ?_
  cases hlast : row.rates.getLast? with
  | none =>
   repeat walk_at "f"
   refine if_f (not_f htl.isEmpty (last_none hlast)) ?_
   repeat walk_at "f"
   exact ⟨rfl, hh, e1, e2, e3, Grow.to (heldC_none hlast) (g.mono (HLe.new h0))⟩
  | some p =>
   repeat walk_at "f"
   refine if_t (not_t htl.isEmpty (last_some hlast)) ?_
   have hmem := List.mem_of_getLast? hlast
   obtain ⟨vl, hvl2, rx2, rfl, hrx2⟩ := htl.getLast hlast
   obtain ⟨⟨q1, q2⟩, q3, q4⟩ := hr.rates _ hmem
   have hlt2 : lt.length ≤ 1000000 := by rw [htl.length]; exact Nat.le_trans hr.small (by decide)
   have n1 := numW_le (i := p.1) q1 (Int.lt_trans q2 (by decide))
   have n2 := numW_le (i := p.2) q3 (Int.lt_trans q4 (by decide))
   have n3 : (lit "/").length = 1 := by decide +kernel
   repeat walk_at "f"
   refine SbW.list (by walk_at "hk") (by decide) (x := .ref t) rfl (by exact Nat.le_of_ble_eq_true tt) ?_
   refine EW.usub ?_
   repeat walk_at "f"
   refine ⟨1, rfl, ?_⟩
   refine SbW.listLast (by walk_at "hk") hvl2 hlt2 ?_
   repeat walk_at "f"
   refine SbW.tup (by walk_at "hk") (by decide) (by rfl) (by exact Nat.le_of_ble_eq_true tt) ?_
   repeat walk_at "f"
   refine CallW.strI (log2_small q1 (Int.lt_trans q2 (by decide))) ?_
   repeat walk_at "f"
   refine OpW.addSS (addD n1 (Nat.le_of_eq n3) tt) ?_
   repeat walk_at "f"
   refine SbW.list (by walk_at "hk") (by decide) (x := .ref t) rfl (by exact Nat.le_of_ble_eq_true tt) ?_
   refine EW.usub ?_
   repeat walk_at "f"
   refine ⟨1, rfl, ?_⟩
   refine SbW.listLast (by walk_at "hk") hvl2 hlt2 ?_
   repeat walk_at "f"
   refine SbW.tup (by walk_at "hk") (by decide) (by rfl) (by exact Nat.le_of_ble_eq_true tt) ?_
   repeat walk_at "f"
   refine CallW.strI (log2_small q3 (Int.lt_trans q4 (by decide))) ?_
   repeat walk_at "f"
   refine OpW.addSS (addD (apD n1 (Nat.le_of_eq n3) (k := 4) tt) n2 tt) ?_
   repeat walk_at "f"
   refine ⟨⟨⟨_, by walk_at "hk"⟩, rfl⟩, ?_⟩
   repeat walk_at "f"
   refine ⟨Nat.le_of_ble_eq_true tt, fun b1 h1 => ?_⟩
   repeat walk_at "f"
   refine ⟨Nat.le_of_ble_eq_true tt, fun b2 h2 => ?_⟩
   repeat walk_at "f"
   refine OpW.addSS (addD (a := 14) (by decide +kernel) (apD (apD n1 (Nat.le_of_eq n3) (k := 4) tt) n2 (k := 7) tt) tt) ?_
   repeat walk_at "f"
   refine ⟨Nat.le_of_ble_eq_true tt, fun b3 h3 => ?_⟩
   repeat walk_at "f"
   refine ⟨Nat.le_of_ble_eq_true tt, fun b4 h4 => ?_⟩
   repeat walk_at "f"
   refine CallW.append (by walk_at "hk") hvl ?_
   repeat walk_at "f"
   refine ⟨rfl, hh, by walk_at "lk", by walk_at "lk", by walk_at "lk", ?_⟩
   refine Grow.to (congrArg _ (heldC_some hlast)) ?_
   refine g.step (by walk_at "le") ?_ hvs rfl
   have nh4 : b4 ≠ hh := ne_of h4 (o := .list vs) (by walk_at "hk")
   have nh1 : b1 ≠ hh := ne_of h1 (o := .list vs) (by walk_at "hk")
   have nh2 : b2 ≠ hh := ne_of h2 (o := .list vs) (by walk_at "hk")
   have nh3 : b3 ≠ hh := ne_of h3 (o := .list vs) (by walk_at "hk")
   exact NdAt.mk ((hdel_ne (nh4)).trans (by walk_at "hk")) ((hdel_ne (nh1)).trans (by walk_at "hk")) ⟨b2, rfl, (hdel_ne (nh2)).trans (by walk_at "hk")⟩ ((hdel_ne (nh3)).trans (by walk_at "hk")) (by rfl) (by rfl) (by rfl)
 clear g e1 e2 e3 L1 H1 hh
 rintro L1 H1 ⟨hh, e1, e2, e3, g⟩
 refine SS.seq (M855 H rw' rx (heldA row ++ imap (ruleNd rows) row.rules ++ heldC row ++ heldD row)) (fun _ hPs => ?_) ?_
 ·have gle := g.le
  obtain ⟨vs, hvs, hvn⟩ := g.at'
  have hvl := vl2 hr hvn
  repeat walk_at "f"
  refine SbW.list (by walk_at "hk") (by decide) (x := .ref dl) rfl (by exact Nat.le_of_ble_eq_true tt) ?_
  repeat walk_at "f"
  refine ⟨Nat.le_of_ble_eq_true tt, fun b0 h0 => ?_⟩
  refine CmpW.neNil (by walk_at "hk") (by walk_at "hk") ?_
  cases hlast : row.delays.getLast? with
  | none =>
   repeat walk_at "f"
   refine if_f (not_f List.isEmpty_map (last_none hlast)) ?_
   repeat walk_at "f"
   exact ⟨rfl, hh, e1, e2, e3, Grow.to (heldD_none hlast) (g.mono (HLe.new h0))⟩
  | some p =>
   repeat walk_at "f"
   refine if_t (not_t List.isEmpty_map (last_some hlast)) ?_
   have hmem := List.mem_of_getLast? hlast
   have hvl2 : (row.delays.map AV.int).getLast? = some (.int p) := by rw [List.getLast?_map, hlast]; rfl
   obtain ⟨q1, q2⟩ := hr.delays _ hmem
   have n1 := numW_le (i := p) q1 q2
   repeat walk_at "f"
   refine SbW.list (by walk_at "hk") (by decide) (x := .ref dl) rfl (by exact Nat.le_of_ble_eq_true tt) ?_
   refine EW.usub ?_
   repeat walk_at "f"
   refine ⟨1, rfl, ?_⟩
   refine SbW.listLast (by walk_at "hk") hvl2 (by rw [List.length_map]; exact Nat.le_trans hr.small2 (by decide)) ?_
   repeat walk_at "f"
   refine CallW.strI (log2_small q1 (by omega)) ?_
   repeat walk_at "f"
   refine ⟨⟨⟨_, by walk_at "hk"⟩, rfl⟩, ?_⟩
   repeat walk_at "f"
   refine ⟨Nat.le_of_ble_eq_true tt, fun b1 h1 => ?_⟩
   repeat walk_at "f"
   refine ⟨Nat.le_of_ble_eq_true tt, fun b2 h2 => ?_⟩
   repeat walk_at "f"
   refine OpW.addSS (addD (a := 13) (by decide +kernel) n1 tt) ?_
   repeat walk_at "f"
   refine ⟨Nat.le_of_ble_eq_true tt, fun b3 h3 => ?_⟩
   repeat walk_at "f"
   refine ⟨Nat.le_of_ble_eq_true tt, fun b4 h4 => ?_⟩
   repeat walk_at "f"
   refine CallW.append (by walk_at "hk") hvl ?_
   repeat walk_at "f"
   refine ⟨rfl, hh, by walk_at "lk", by walk_at "lk", by walk_at "lk", ?_⟩
   refine Grow.to (congrArg _ (heldD_some hlast)) ?_
   refine g.step (by walk_at "le") ?_ hvs rfl
   have nh4 : b4 ≠ hh := ne_of h4 (o := .list vs) (by walk_at "hk")
   have nh1 : b1 ≠ hh := ne_of h1 (o := .list vs) (by walk_at "hk")
   have nh2 : b2 ≠ hh := ne_of h2 (o := .list vs) (by walk_at "hk")
   have nh3 : b3 ≠ hh := ne_of h3 (o := .list vs) (by walk_at "hk")
   exact NdAt.mk ((hdel_ne (nh4)).trans (by walk_at "hk")) ((hdel_ne (nh1)).trans (by walk_at "hk")) ⟨b2, rfl, (hdel_ne (nh2)).trans (by walk_at "hk")⟩ ((hdel_ne (nh3)).trans (by walk_at "hk")) (by rfl) (by rfl) (by rfl)
 clear g e1 e2 e3 L1 H1 hh
 rintro L1 H1 ⟨hh, e1, e2, e3, g⟩
 refine SS.seq (M855 H rw' rx (held rows row)) (fun _ hPs => ?_) ?_
 ·refine ST.forP ?_
  repeat walk_at "f"
  have gle := g.le
  refine SbW.list (by walk_at "hk") (by decide) (x := .ref a) rfl (by exact Nat.le_of_ble_eq_true tt) ?_
  repeat walk_at "f"
  refine CallW.lenL (by walk_at "hk") (leD hna tt) ?_
  repeat walk_at "f"
  refine CallW.range1 fun r t1 t2 t3 hrn => ?_
  refine ⟨_, _, IterW.range (by walk_at "hk") (s60 hna), fun i => M855 H rw' rx (heldA row ++ imap (ruleNd rows) row.rules ++ heldC row ++ heldD row ++ imap agentNd (row.agents.take i)), ?_, fun _ _ _ _ => trivial, ?_, ?_⟩
  ·exact ⟨hh, e1, e2, e3, Grow.to (List.append_nil _) (g.mono (HLe.new hrn))⟩
  ·rintro i x L2 H2 hx2 Pk hPk ⟨hh2, f1, f2, f3, g2⟩
   have hi : i < la.length := by have := (List.getElem?_eq_some_iff.mp hx2).1; rwa [upTo_len] at this
   rw [upTo_get hi] at hx2
   cases hx2
   have gle2 := g2.le
   obtain ⟨vs, hvs, hvn⟩ := g2.at'
   obtain ⟨ry, hry⟩ : ∃ p, la[i]? = some p := ⟨_, List.getElem?_eq_getElem hi⟩
   obtain ⟨⟨tx, wd⟩, hrr, ra, rfl, hra⟩ := hal.getL hry
   have hmem := List.mem_of_getElem? hrr
   have hok1 := hr.agents _ hmem
   have hvl := vl3 hr hvn
   repeat walk_at "f"
   refine SbW.list (by walk_at "hk") (by decide) (x := .ref a) rfl (by exact Nat.le_of_ble_eq_true tt) ?_
   repeat walk_at "f"
   refine SbW.list (by walk_at "hk") (Int.natCast_nonneg _) (by exact hry) (s60 hna) ?_
   refine AsW.tup (by walk_at "hk") (by rfl) ?_
   refine d_ae ?_
   repeat walk_at "f"
   refine d_ae ?_
   repeat walk_at "f"
   refine AsEach.nil ?_
   repeat walk_at "f"
   refine ⟨⟨⟨_, hvs⟩, rfl⟩, ?_⟩
   repeat walk_at "f"
   refine ⟨Nat.le_of_ble_eq_true tt, fun b1 h1 => ?_⟩
   repeat walk_at "f"
   refine ⟨Nat.le_of_ble_eq_true tt, fun b2 h2 => ?_⟩
   repeat walk_at "f"
   refine OpW.addSS (addD (a := 12) (by decide +kernel) hok1.1 tt) ?_
   repeat walk_at "f"
   split
   ·rename_i hne'
    repeat walk_at "f"
    refine ⟨Nat.le_of_ble_eq_true tt, fun b3 h3 => ?_⟩
    repeat walk_at "f"
    refine ⟨Nat.le_of_ble_eq_true tt, fun b4 h4 => ?_⟩
    repeat walk_at "f"
    refine CallW.append (by walk_at "hk") hvl ?_
    repeat walk_at "f"
    refine ⟨trivial, hh2, by walk_at "lk", by walk_at "lk", by walk_at "lk", ?_⟩
    refine Grow.to (snocN hrr) ?_
    refine g2.step (by walk_at "le") ?_ hvs rfl
    have nh4 : b4 ≠ hh2 := ne_of h4 (o := .list vs) (by walk_at "hk")
    have nh3 : b3 ≠ hh2 := ne_of h3 (o := .list vs) (by walk_at "hk")
    have nh2 : b2 ≠ hh2 := ne_of h2 (o := .list vs) (by walk_at "hk")
    have nh1 : b1 ≠ hh2 := ne_of h1 (o := .list vs) (by walk_at "hk")
    refine NdAt.mk ((hdel_ne nh4).trans (by walk_at "hk")) ((hdel_ne nh1).trans (by walk_at "hk")) ⟨b2, rfl, (hdel_ne nh2).trans (by walk_at "hk")⟩ ((hdel_ne nh3).trans (by walk_at "hk")) (by rfl) (by rfl) ?_
    exact (congrArg wds (if_pos hne' : (agentNd i (tx, wd)).words = [lit "User-agent:", wd])).symm
   ·rename_i hne'
    repeat walk_at "f"
    refine ⟨Nat.le_of_ble_eq_true tt, fun b3 h3 => ?_⟩
    repeat walk_at "f"
    refine ⟨Nat.le_of_ble_eq_true tt, fun b4 h4 => ?_⟩
    repeat walk_at "f"
    refine CallW.append (by walk_at "hk") hvl ?_
    repeat walk_at "f"
    refine ⟨trivial, hh2, by walk_at "lk", by walk_at "lk", by walk_at "lk", ?_⟩
    refine Grow.to (snocN hrr) ?_
    refine g2.step (by walk_at "le") ?_ hvs rfl
    have nh4 : b4 ≠ hh2 := ne_of h4 (o := .list vs) (by walk_at "hk")
    have nh3 : b3 ≠ hh2 := ne_of h3 (o := .list vs) (by walk_at "hk")
    have nh2 : b2 ≠ hh2 := ne_of h2 (o := .list vs) (by walk_at "hk")
    have nh1 : b1 ≠ hh2 := ne_of h1 (o := .list vs) (by walk_at "hk")
    refine NdAt.mk ((hdel_ne nh4).trans (by walk_at "hk")) ((hdel_ne nh1).trans (by walk_at "hk")) ⟨b2, rfl, (hdel_ne nh2).trans (by walk_at "hk")⟩ ((hdel_ne nh3).trans (by walk_at "hk")) (by rfl) (by rfl) ?_
    exact (congrArg wds (if_neg hne' : (agentNd i (tx, wd)).words = [lit "User-agent:"])).symm
  ·rintro L2 H2 ⟨hh2, f1, f2, f3, g2⟩
   repeat walk_at "f"
   refine ⟨rfl, hh2, f1, f2, f3, ?_⟩
   rwa [upTo_len, hal.length, List.take_length] at g2
 clear g e1 e2 e3 L1 H1 hh
 rintro L1 H1 ⟨hh, e1, e2, e3, g⟩
 repeat walk_at "f"
 obtain ⟨vs, hvs, hvn⟩ := g.at'
 refine ⟨g.le, hh, vs, rfl, hvs, hvn.mono fun _ _ => NdAt.mono fun b ob q => ?_⟩
 by_cases q' : b = hh
 ·rw [q', hdel_self] at q; cases q
 ·rwa [hdel_ne q'] at q
end
end
section
set_option maxHeartbeats 4000000
theorem f862 (P) : (Kf P).lookup 862 = some (fnO (topS 38) (o "_law_lines") .none (.str (o "law_oy0424_01") 1358) (.ref 861)) := rfl
theorem g862 (P) : codeIn (Kf P) (.ref 861) (o "_law_lines") = true := rfl
inductive LineAt (H : AH) (v : AV) (p : W × List W) : Prop
 | mk' (y wa : Addr) (e : v = .ref y) (g : H y = some (.tup [.str (S p.1), .ref wa])) (h : H wa = some (.list (wds p.2)))
theorem LineAt.mono {H H' : AH} {v : AV} {p : W × List W} (k : HLe H H') (h : LineAt H v p) : LineAt H' v p := by obtain ⟨y, w, e, g, h1⟩ := h; exact ⟨y, w, e, k _ _ g, k _ _ h1⟩
noncomputable def NdOk (rows : List Row) (n : Nd) : Prop := ∀ r, n.row = some r → RowOk r ∧ ∀ p ∈ r.rules, p.1 < rows.length
noncomputable def HpR (H : AH) (rows : List Row) (it : It) (p : ItA Nd) : Prop := it.1 = p.1 ∧ NdAt H it.2 p.2 ∧ p.2.key = p.1 ∧ NdOk rows p.2
theorem HpR.mono {H H' : AH} {rows : List Row} {it : It} {p : ItA Nd} (k : HLe H H') (h : HpR H rows it p) : HpR H' rows it p := ⟨h.1, h.2.1.mono k, h.2.2⟩
theorem keys_of {H : AH} {rows : List Row} {its : List It} {h : List (ItA Nd)} (a : All2 (HpR H rows) its h) : keys its = keys h := by
 induction a with
 | nil => rfl
 | cons hh _ ih =>
  have := hh.1
  show _ :: keys _ = _ :: keys _
  rw [ih]
  exact congrArg (· :: _) this
theorem popR_rel {α β : Type} {R : ItA α → ItA β → Prop} {xs : List (ItA α)} {ys : List (ItA β)} {a : ItA α} {b : ItA β} (h : All2 R xs ys) (hab : R a b) : R (popR xs a) (popR ys b) := by
 cases h with
 | nil => exact hab
 | cons h _ => exact h
theorem popL_rel {α β : Type} {R : ItA α → ItA β → Prop} (hk : ∀ a b, R a b → a.1 = b.1) {xs : List (ItA α)} {ys : List (ItA β)} {a : ItA α} {b : ItA β} (h : All2 R xs ys) (hab : R a b) : All2 R (popL xs a) (popL ys b) := by
 cases h with
 | nil => exact .nil
 | cons h t => exact su_rel hk _ _ rfl ((All2.cons h t).set hab 0) hab
theorem All2.dropLast {α β : Type} {R : α → β → Prop} {as : List α} {bs : List β} (h : All2 R as bs) : All2 R as.dropLast bs.dropLast := by
 rw [List.dropLast_eq_take, List.dropLast_eq_take, h.length]; exact h.take _
theorem split_last {α : Type} {l : List α} {a : α} (h : l.getLast? = some a) : l = l.dropLast ++ [a] := by
 have hne : l ≠ [] := fun q => by rw [q] at h; cases h
 rw [List.getLast?_eq_some_getLast hne] at h
 cases h
 exact (List.dropLast_concat_getLast hne).symm
theorem mem_imapF {α β : Type} {f : Nat → α → β} {b : β} {l : List α} {i : Nat} (h : b ∈ imapF f i l) : ∃ j a, a ∈ l ∧ b = f j a := by
 induction l generalizing i with
 | nil => cases h
 | cons a l ih =>
  rcases List.mem_cons.mp h with rfl | h
  ·exact ⟨i, a, .head _, rfl⟩
  ·obtain ⟨j, a', h1, h2⟩ := ih h
   exact ⟨j, a', .tail _ h1, h2⟩
theorem held_key {rows : List Row} {row : Row} {n : Nd} (h : n ∈ held rows row) : n.key ≠ [] := by
 unfold held at h
 rcases List.mem_append.mp h with h | h
 ·rcases List.mem_append.mp h with h | h
  ·rcases List.mem_append.mp h with h | h
   ·rcases List.mem_append.mp h with h | h
    ·unfold heldA at h
     split at h
     ·rcases List.mem_cons.mp h with rfl | h
      ·simp
      ·cases h
     ·cases h
    ·obtain ⟨j, p, hp, rfl⟩ := mem_imapF h
     unfold ruleNd
     split <;> simp
   ·unfold heldC at h
    split at h
    ·rcases List.mem_cons.mp h with rfl | h
     ·simp
     ·cases h
    ·cases h
  ·unfold heldD at h
   split at h
   ·rcases List.mem_cons.mp h with rfl | h
    ·simp
    ·cases h
   ·cases h
 ·obtain ⟨j, p, hp, rfl⟩ := mem_imapF h
  simp [agentNd]
theorem held_ok {rows : List Row} (hok : RowsOk rows) {row : Row} {n : Nd} (h : n ∈ held rows row) : NdOk rows n := by
 intro r hr
 have none_case : ∀ {m : Nd}, m.row = none → n = m → False := fun e q => by rw [q, e] at hr; cases hr
 unfold held at h
 rcases List.mem_append.mp h with h | h
 ·rcases List.mem_append.mp h with h | h
  ·rcases List.mem_append.mp h with h | h
   ·rcases List.mem_append.mp h with h | h
    ·unfold heldA at h
     split at h
     ·rcases List.mem_cons.mp h with rfl | h
      ·cases hr
      ·cases h
     ·cases h
    ·obtain ⟨j, p, hp, rfl⟩ := mem_imapF h
     unfold ruleNd at hr
     split at hr
     ·have hm := List.mem_of_getElem? hr
      exact ⟨hok.1 _ hm, hok.2.1 _ hm⟩
     ·cases hr
   ·unfold heldC at h
    split at h
    ·rcases List.mem_cons.mp h with rfl | h
     ·cases hr
     ·cases h
    ·cases h
  ·unfold heldD at h
   split at h
   ·rcases List.mem_cons.mp h with rfl | h
    ·cases hr
    ·cases h
   ·cases h
 ·obtain ⟨j, p, hp, rfl⟩ := mem_imapF h
  cases hr
inductive M862 (H : AH) (rows : List Row) (rx : Addr) (out : List (W × List W)) (n : Nat) (L1 : AL) (H1 : AH) : Prop
 | mk' (hp ll : Addr) (Hd : AH) (its : List It) (lv : List AV) (h : List (ItA Nd)) (out' : List (W × List W)) (e1 : L1 (o "heap") = some (.ref hp)) (e2 : L1 (o "lines") = some (.ref ll)) (e3 : L1 (o "rows") = some (.ref rx))
  (tw : Two Hd hp ll (.list (vals its)) (.list lv) H1) (hle : HLe H Hd) (ha : All2 (HpR Hd rows) its h) (hl : All2 (LineAt Hd) lv out') (hr : runH rows n h out' = some out)
inductive A862 (H : AH) (whole : Row) (rx : Addr) (L1 : AL) (H1 : AH) : Prop
 | mk' (hp b4 : Addr) (e1 : L1 (o "heap") = some (.ref hp)) (e2 : L1 (o "rows") = some (.ref rx)) (g1 : H1 hp = some (.list [.ref b4])) (g2 : HLe H (hdel H1 hp)) (g3 : NdAt (hdel H1 hp) (.ref b4) ⟨[], some whole, lit "", []⟩)
inductive B862 (H : AH) (out : List (W × List W)) (L2 : AL) (H2 : AH) : Prop
 | mk' (ll : Addr) (Hd : AH) (lv : List AV) (e : L2 (o "lines") = some (.ref ll)) (g : H2 ll = some (.list lv)) (k1 : HLe H Hd) (k2 : HLe Hd H2) (hl : All2 (LineAt Hd) lv out)
inductive C862 (H4 : AH) (rows : List Row) (rx hp ll at' : Addr) (lv : List AV) (nds : List Nd) (hfin : List (ItA Nd)) (i : Nat) (L6 : AL) (H6 : AH) : Prop
 | mk' (Hd6 : AH) (it6 : List It) (h6 : List (ItA Nd)) (f1 : L6 (o "heap") = some (.ref hp)) (f2 : L6 (o "lines") = some (.ref ll)) (f3 : L6 (o "rows") = some (.ref rx)) (f4 : L6 (o "address") = some (.ref at'))
  (tw6 : Two Hd6 hp ll (.list (vals it6)) (.list lv) H6) (k6 : HLe H4 Hd6) (ha6 : All2 (HpR Hd6 rows) it6 h6) (hp6 : pushL h6 (nds.drop i) = some hfin)
section
variable {c : Cx} {L : AL} {H : AH}
theorem c862 {wh : Addr} {rs : AV} {rows : List Row} {whole : Row} {n : Nat} {out : List (W × List W)} (hroom : 4 ≤ c.d.room) (hrow : RowAt H (.ref wh) whole) (hrows : RowsAt H rs rows) (hok : RowsOk rows) (hr : RowOk whole) (hc : ∀ p ∈ whole.rules, p.1 < rows.length)
  (hrun : runH rows n [([], ⟨[], some whole, lit "", []⟩)] [] = some out) :
  CodeW c (.ref 862) [.ref wh, rs] [] [] L H (LstP LineAt H out) := by
 refine CodeW.enterP (ns := [o "whole", o "rows"]) (bas := [.ref wh, rs]) (f862 _) (g862 _) (by first | exact room_1 hroom tt | omega) (fun vs ws hv hw => ?_) (by rfl) (by rfl) (by rfl) (by rfl) (by rfl) fun d hrm _ Pf hPf => ?_
 ·exact bind2 hv fun _ _ _ _ => BindsTo.of_eq (by rfl)
 conv in fBody _ => whnf
 have hrows' := hrows
 obtain ⟨rx, rl, rfl, hrx, hrl⟩ := hrows
 refine SS.seq (A862 H whole rx) (fun _ hPs => ?_) ?_
 ·repeat walk_at "f"
  refine ⟨Nat.le_of_ble_eq_true tt, fun b1 h1 => ?_⟩
  repeat walk_at "f"
  refine ⟨Nat.le_of_ble_eq_true tt, fun b2 h2 => ?_⟩
  repeat walk_at "f"
  refine ⟨Nat.le_of_ble_eq_true tt, fun b4 h4 => ?_⟩
  repeat walk_at "f"
  refine ⟨Nat.le_of_ble_eq_true tt, fun hp h5 => ?_⟩
  repeat walk_at "f"
  refine ⟨rfl, hp, b4, by walk_at "lk", by walk_at "lk", by walk_at "hk", ?_, ?_⟩
  ·rw [hdel_hset_none h5]; walk_at "le"
  ·rw [hdel_hset_none h5]
   exact NdAt.mk (by walk_at "hk") (by walk_at "hk") (hrow.mono (by walk_at "le")) (by walk_at "hk") (by rfl) (by rfl) (by rfl)
 rintro L1 H1 ⟨hp, b4, e1, e2, g1, g2, g3⟩
 refine SS.seq (M862 H rows rx out n) (fun _ hPs => ?_) ?_
 ·repeat walk_at "f"
  refine ⟨Nat.le_of_ble_eq_true tt, fun ll h1 => ?_⟩
  repeat walk_at "f"
  have hne : ll ≠ hp := ne_of h1 g1
  refine ⟨rfl, hp, ll, hdel H1 hp, [([], .ref b4)], [], [([], ⟨[], some whole, lit "", []⟩)], [], by walk_at "lk", by walk_at "lk", by walk_at "lk", ⟨?_, hdel_self _ _, (hdel_ne hne).trans h1, hne.symm⟩, g2, .one ⟨rfl, g3, rfl, ?_⟩, .nil, hrun⟩
  ·rw [hdel_hset]
   show _ = hset (hset H1 hp (.list [.ref b4])) ll _
   rw [hset_self g1]
  ·rintro r e
   cases e
   exact ⟨hr, hc⟩
 clear e1 e2 g1 g2 g3 hp b4 L1 H1
 intro L1 H1 hM
 refine SS.seq (B862 H out) (fun _ hPs => ?_) ?_
 ·refine ST.whileIn (M862 H rows rx out) n hM ?_
  clear hM L1 H1
  rintro m L1 H1 Pk hPk ⟨hp, ll, Hd, its, lv, h, out', e1, e2, e3, tw, hle, ha, hl, hrun⟩
  repeat walk_at "f"
  refine ⟨Nat.le_of_ble_eq_true tt, fun b0 h0 => ?_⟩
  have tw0 := tw.alloc (o := .list []) h0
  have h0d : Hd b0 = none := tw.none h0
  refine CmpW.neNil tw0.getp (by walk_at "hk") ?_
  have eE : (vals its).isEmpty = h.isEmpty := by unfold vals; rw [List.isEmpty_map, ha.isEmpty]
  cases m with
  | zero => cases hrun
  | succ m =>
   cases hlast : h.getLast? with
   | none =>
    have hnil : h = [] := by simpa using hlast
    subst hnil
    first | with_reducible refine IfK.f (not_f eE rfl) ?_ | refine if_f (not_f eE rfl) ?_
    have eo : some out' = some out := by rw [← hrun]; unfold runH; rfl
    cases eo
    repeat walk_at "f"
    exact ⟨rfl, ll, Hd, lv, e2, tw0.getq, hle, (HLe.new h0d).trans tw0.le, hl⟩
   | some last =>
    first | with_reducible refine IfK.t (not_t eE (last_some hlast)) ?_ | refine if_t (not_t eE (last_some hlast)) ?_
    have hrun' := hrun
    unfold runH at hrun'
    rw [hlast] at hrun'
    replace hrun' : (if (keys h).Nodup ∧ h.length ≤ 90000 ∧ out'.length ≤ 90000 then _ else _) = some out := hrun'
    by_cases hcond : (keys h).Nodup ∧ h.length ≤ 90000 ∧ out'.length ≤ 90000
    rotate_left
    ·rw [if_neg hcond] at hrun'; cases hrun'
    rw [if_pos hcond] at hrun'
    obtain ⟨hnd, hsz, hosz⟩ := hcond
    obtain ⟨lastA, hlA, hlR⟩ := ha.getLast hlast
    have esplit := split_last hlA
    have ha0 : All2 (HpR (hset Hd b0 (.list [])) rows) its h := ha.mono fun _ _ => HpR.mono (HLe.new h0d)
    have hkey : ∀ a b, HpR (hset Hd b0 (.list [])) rows a b → a.1 = b.1 := fun _ _ h => h.1
    have hkO : ∀ p ∈ its, KeyOf (hset H1 b0 (.list [])) p.2 p.1 := fun p hp => by
     obtain ⟨i, hi⟩ := List.getElem?_of_mem hp
     obtain ⟨q, _, hq⟩ := ha0.getL hi
     have := (hq.2.1.mono tw0.le).key
     rw [hq.2.2.1, ← hq.1] at this
     exact this
    have hgl : (hset H1 b0 (.list [])) hp = some (.list (vals (its.dropLast ++ [lastA]))) := by rw [← esplit]; exact tw0.getp
    have hlenI : its.dropLast.length ≤ 90000 := by rw [List.length_dropLast, ha.length]; exact Nat.le_trans (Nat.sub_le ..) hsz
    repeat walk_at "f"
    refine CallKW.toCall (CodeW.toKW ((c107 (c := ⟨d, (fScope (topS 38)).names, []⟩) (its := its.dropLast) (last := lastA) (by first | exact room_le hroom hrm tt | exact room_le hroom hr tt | (show 3 ≤ d.room; omega)) hgl (by rw [← esplit]; exact hkO) (by rw [← esplit, keys_of ha]; exact hnd) hlenI).mono fun a H2 hx0 => ?_))
    obtain ⟨ea, eH⟩ := hx0
    subst ea eH
    have tw1 : Two (hset Hd b0 (.list [])) hp ll (.list (vals (popL its.dropLast lastA))) (.list lv) _ := tw0.setp
    have hle0 : HLe H (hset Hd b0 (.list [])) := HLe.put h0d hle
    have hpr : HpR (hset Hd b0 (.list [])) rows (popR its.dropLast lastA) (popR h.dropLast last) := popR_rel ha0.dropLast (hlR.mono (HLe.new h0d))
    have hpl : All2 (HpR (hset Hd b0 (.list [])) rows) (popL its.dropLast lastA) (popL h.dropLast last) := popL_rel hkey ha0.dropLast (hlR.mono (HLe.new h0d))
    have hl0 : All2 (LineAt (hset Hd b0 (.list []))) lv out' := hl.mono fun _ _ => LineAt.mono (HLe.new h0d)
    generalize hnd2 : (popR h.dropLast last) = pr at hpr hrun'
    generalize (popL h.dropLast last) = hq at hpl hrun'
    generalize popL its.dropLast lastA = iq at hpl tw1
    generalize popR its.dropLast lastA = ip at hpr tw1
    obtain ⟨hk1, hndA, hk2, hok1⟩ := hpr
    obtain ⟨x, at', ra, wa, ex, gx, gat, gra, gwa⟩ := hndA
    rw [ex]
    generalize hset (hset H1 b0 (.list [])) hp (.list (vals iq)) = H2 at tw1
    generalize hset Hd b0 (.list []) = Hd0 at *
    refine AsW.tup (tw1.le _ _ gx) (by rfl) ?_
    refine d_ae ?_
    repeat walk_at "f"
    refine d_ae ?_
    repeat walk_at "f"
    refine d_ae ?_
    repeat walk_at "f"
    refine d_ae ?_
    repeat walk_at "f"
    refine AsEach.nil ?_
    repeat walk_at "f"
    refine ⟨Nat.le_of_ble_eq_true tt, fun b1 h1 => ?_⟩
    have tw2 := tw1.alloc (o := .list []) h1
    have h1d := tw1.none h1
    cases hrow2 : pr.2.row with
    | none =>
     rw [hrow2] at gra
     obtain ⟨ar, rfl, gar⟩ := gra
     refine CmpW.eqNil (tw2.le _ _ (HLe.new h1d _ _ gar)) (by walk_at "hk") ?_
     repeat walk_at "f"
     first | with_reducible refine if_t (by rfl) ?_ | with_reducible refine IfK.t (by rfl) ?_ | with_reducible refine IteK.t (by rfl) ?_ | rw [if_pos (by rfl)]
     repeat walk_at "f"
     first | with_reducible refine if_t rfl ?_ | with_reducible refine IfK.t rfl ?_ | with_reducible refine IteK.t rfl ?_ | rw [if_pos (by rfl)]
     repeat walk_at "f"
     refine ⟨⟨⟨_, tw2.getq⟩, rfl⟩, ?_⟩
     repeat walk_at "f"
     refine ⟨Nat.le_of_ble_eq_true tt, fun b2 h2 => ?_⟩
     repeat walk_at "f"
     have tw3 := tw2.alloc (o := .tup [.str (S pr.2.line), .ref wa]) h2
     have h2d := tw2.none h2
     refine CallW.append tw3.getq (by rw [hl.length]; exact leD hosz tt) ?_
     repeat walk_at "f"
     have hleaf : pr.2.leaf = true := by unfold Nd.leaf; rw [hrow2]
     rw [if_pos hleaf] at hrun'
     have kD : HLe Hd0 (hset (hset Hd0 b1 (.list [])) b2 (.tup [.str (S pr.2.line), .ref wa])) := HLe.put h2d (HLe.new h1d)
     refine ⟨m, Nat.lt_succ_self m, hp, ll, _, iq, lv ++ [.ref b2], hq, out' ++ [(pr.2.line, pr.2.words)], by walk_at "lk", by walk_at "lk", by walk_at "lk", tw3.setq, hle0.trans kD, hpl.mono fun _ _ => HpR.mono kD, (hl0.mono fun _ _ => LineAt.mono kD).append (.one ⟨b2, wa, rfl, by walk_at "hk", kD _ _ gwa⟩), hrun'⟩
    | some r =>
     rw [hrow2] at gra
     obtain ⟨ok1, ok2⟩ := hok1 r hrow2
     have gra' : RowAt Hd0 ra r := gra
     obtain ⟨ar, aa, ad, at2, au, la, lt, lu, rfl, gar, gla, hla, gld, glt, hlt, glu, hlu⟩ := gra
     refine CmpW.eqNil (tw2.le _ _ (HLe.new h1d _ _ gar)) (by walk_at "hk") ?_
     rw [if_neg (by simp)]
     repeat walk_at "f"
     refine SbW.list (tw2.le _ _ (HLe.new h1d _ _ gar)) (by decide) (x := .ref aa) rfl (by exact Nat.le_of_ble_eq_true tt) ?_
     repeat walk_at "f"
     refine ⟨Nat.le_of_ble_eq_true tt, fun b3 h3 => ?_⟩
     have tw4 := tw2.alloc (o := .list []) h3
     have h3d := tw2.none h3
     refine CmpW.eqNil (tw4.le _ _ (HLe.new h3d _ _ (HLe.new h1d _ _ gla))) (by walk_at "hk") ?_
     rw [hla.isEmpty]
     cases hemp : r.agents.isEmpty with
     | true =>
      repeat walk_at "f"
      first | with_reducible refine if_t rfl ?_ | with_reducible refine IfK.t rfl ?_ | with_reducible refine IteK.t rfl ?_ | rw [if_pos rfl]
      repeat walk_at "f"
      refine ⟨⟨⟨_, tw4.getq⟩, rfl⟩, ?_⟩
      repeat walk_at "f"
      refine ⟨Nat.le_of_ble_eq_true tt, fun b2 h2 => ?_⟩
      repeat walk_at "f"
      have tw3 := tw4.alloc (o := .tup [.str (S pr.2.line), .ref wa]) h2
      have h2d := tw4.none h2
      refine CallW.append tw3.getq (by rw [hl.length]; exact leD hosz tt) ?_
      repeat walk_at "f"
      have hleaf : pr.2.leaf = true := by unfold Nd.leaf; rw [hrow2]; exact hemp
      rw [if_pos hleaf] at hrun'
      have kD : HLe Hd0 (hset (hset (hset Hd0 b1 (.list [])) b3 (.list [])) b2 (.tup [.str (S pr.2.line), .ref wa])) := HLe.put h2d (HLe.put h3d (HLe.new h1d))
      refine ⟨m, Nat.lt_succ_self m, hp, ll, _, iq, lv ++ [.ref b2], hq, out' ++ [(pr.2.line, pr.2.words)], by walk_at "lk", by walk_at "lk", by walk_at "lk", tw3.setq, hle0.trans kD, hpl.mono fun _ _ => HpR.mono kD, (hl0.mono fun _ _ => LineAt.mono kD).append (.one ⟨b2, wa, rfl, by walk_at "hk", kD _ _ gwa⟩), hrun'⟩
     | false =>
      repeat walk_at "f"
      first | with_reducible refine if_f (by decide) ?_ | with_reducible refine IfK.f (by decide) ?_ | with_reducible refine IteK.f (by decide) ?_ | rw [if_neg (by decide)]
      have hleaf : ¬ pr.2.leaf = true := by unfold Nd.leaf; rw [hrow2]; show ¬ r.agents.isEmpty = true; rw [hemp]; decide
      rw [if_neg hleaf] at hrun'
      have hheld : heldOf rows pr.2 = (held rows r).map (Nd.ext pr.2.key) := by unfold heldOf; rw [hrow2]
      rw [hheld] at hrun'
      cases hpush : pushL hq ((held rows r).map (Nd.ext pr.2.key)) with
      | none => rw [hpush] at hrun'; cases hrun'
      | some hfin =>
      rw [hpush] at hrun'
      replace hrun' : runH rows m hfin out' = some out := hrun'
      have kD : HLe Hd0 (hset (hset Hd0 b1 (.list [])) b3 (.list [])) := HLe.put h3d (HLe.new h1d)
      repeat walk_at "f"
      refine ST.forP ?_
      repeat walk_at "f"
      refine (CallW.frame2 tw4 (CallKW.toCall (CodeW.toKW (c855 (c := ⟨d, (fScope (topS 38)).names, []⟩) (rw' := ar) (rs := .ref rx) (by first | exact room_le hroom hrm tt | exact room_le hroom hr tt | (show 1 ≤ d.room; omega)) (gra'.mono kD) (hrows'.mono (hle0.trans kD)) hok ok1 ok2)))).mono fun v H5 hx0 => ?_
      obtain ⟨H4, ⟨k4, hx, hvs, ev, gv, hv⟩, tw5⟩ := hx0
      subst ev
      have k4' : HLe Hd0 H4 := kD.trans k4
      refine ⟨_, _, IterW.list (tw5.le _ _ gv), C862 H4 rows rx hp ll at' lv ((held rows r).map (Nd.ext pr.2.key)) hfin, ?_, ?_, ?_, ?_⟩
      ·exact ⟨H4, iq, hq, by walk_at "lk", by walk_at "lk", by walk_at "lk", by walk_at "lk", tw5, HLe.rfl, hpl.mono fun _ _ => HpR.mono k4', hpush⟩
      ·rintro i L6 H6 ⟨Hd6, it6, h6, _, _, _, _, tw6, k6, _⟩
       exact tw6.le _ _ (k6 _ _ gv)
      ·rintro i xv L6 H6 hxi Pk hPk ⟨Hd6, it6, h6, f1, f2, f3, f4, tw6, k6, ha6, hp6⟩
       obtain ⟨nd2, hn2, hnd2⟩ := hv.getL hxi
       have hmem2 := List.mem_of_getElem? hn2
       have hkne := held_key hmem2
       have hdrop : ((held rows r).map (Nd.ext pr.2.key)).drop i = Nd.ext pr.2.key nd2 :: ((held rows r).map (Nd.ext pr.2.key)).drop (i + 1) := by
        have : ((held rows r).map (Nd.ext pr.2.key))[i]? = some (Nd.ext pr.2.key nd2) := by rw [List.getElem?_map, hn2]; rfl
        obtain ⟨hlt, e⟩ := List.getElem?_eq_some_iff.mp this
        rw [List.drop_eq_getElem_cons hlt, e]
       rw [hdrop] at hp6
       have hp6' : (match pushS h6 (Nd.ext pr.2.key nd2) with | some h' => pushL h' (((held rows r).map (Nd.ext pr.2.key)).drop (i + 1)) | none => none) = some hfin := hp6
       clear hp6
       have hnd6 : NdAt Hd6 xv nd2 := hnd2.mono k6
       obtain ⟨y2, at3, ra2, wa2, ey, gy, gat3, gra2, gwa2⟩ := hnd6
       subst ey
       by_cases hcd : (keys (h6 ++ [((Nd.ext pr.2.key nd2).key, Nd.ext pr.2.key nd2)])).Nodup ∧ h6.length ≤ 90000 ∧ (Nd.ext pr.2.key nd2).key.length ≤ 1000
       rotate_left
       ·unfold pushS at hp6'; rw [if_neg hcd] at hp6'; cases hp6'
       unfold pushS at hp6'
       rw [if_pos hcd] at hp6'
       refine AsW.tup (tw6.le _ _ gy) (by rfl) ?_
       refine d_ae ?_
       repeat walk_at "f"
       refine d_ae ?_
       repeat walk_at "f"
       refine d_ae ?_
       repeat walk_at "f"
       refine d_ae ?_
       repeat walk_at "f"
       refine AsEach.nil ?_
       repeat walk_at "f"
       have gat6 : Hd6 at' = some (.tup (pr.2.key.map .int)) := k6 _ _ (k4' _ _ gat)
       refine (OpW.frame2 tw6 (OpW.addT (Q := fun v H1 => ∃ x, v = .ref x ∧ HLe Hd6 H1 ∧ H1 x = some (.tup (pr.2.key.map .int ++ nd2.key.map .int))) gat6 gat3 ?_ (by simpa using hkne) fun x H' k1 k2 _ => ⟨x, rfl, k1, k2⟩)).mono fun v H8 z => ?_
       ·have : (pr.2.key ++ nd2.key).length ≤ 1000 := hcd.2.2
        rw [List.length_append] at this
        rw [List.length_map, List.length_map]; omega
       obtain ⟨H7, ⟨x7, ev, k7, g7⟩, tw7⟩ := z
       subst ev
       repeat walk_at "f"
       refine ⟨Nat.le_of_ble_eq_true tt, fun b5 h5 => ?_⟩
       have tw8 := tw7.alloc (o := .tup [.ref x7, ra2, .str (S nd2.line), .ref wa2]) h5
       have h5d := tw7.none h5
       repeat walk_at "f"
       have kk : HLe Hd6 (hset H7 b5 (.tup [.ref x7, ra2, .str (S nd2.line), .ref wa2])) := HLe.put h5d k7
       have hnew : NdAt (hset H7 b5 (.tup [.ref x7, ra2, .str (S nd2.line), .ref wa2])) (.ref b5) (Nd.ext pr.2.key nd2) :=
        NdAt.mk (hset_same _ _ _) (hset_old h5d g7) (gra2.mono kk) (kk _ _ gwa2) (by rfl) (by show _ = List.map _ (_ ++ _); rw [List.map_append]) (by rfl)
       have ha7 := ha6.mono fun _ _ => HpR.mono kk
       have hR : HpR (hset H7 b5 (.tup [.ref x7, ra2, .str (S nd2.line), .ref wa2])) rows ((Nd.ext pr.2.key nd2).key, .ref b5) ((Nd.ext pr.2.key nd2).key, Nd.ext pr.2.key nd2) := ⟨rfl, hnew, rfl, fun r' e' => held_ok hok hmem2 r' e'⟩
       have haa := ha7.append (.one hR)
       refine (CallKW.toCall (CodeW.toKW ((c100 (c := ⟨d, (fScope (topS 38)).names, []⟩) (its := it6) (new := ((Nd.ext pr.2.key nd2).key, .ref b5)) (by first | exact room_le hroom hrm tt | exact room_le hroom hr tt | (show 2 ≤ d.room; omega)) tw8.getp (fun p hp => ?_) (hnew.mono tw8.le).key (by rw [keys_of haa]; exact hcd.1) (by rw [ha6.length]; exact hcd.2.1)).mono fun a H9 z => ?_)))
       ·obtain ⟨j, hj⟩ := List.getElem?_of_mem hp
        obtain ⟨q, _, hq⟩ := ha7.getL hj
        have := (hq.2.1.mono tw8.le).key
        rw [hq.2.2.1, ← hq.1] at this
        exact this
       ·obtain ⟨ea, eH⟩ := z
        subst ea eH
        repeat walk_at "f"
        refine ⟨trivial, _, _, _, by walk_at "lk", by walk_at "lk", by walk_at "lk", by walk_at "lk", tw8.setp, k6.trans kk, ?_, hp6'⟩
        rw [ha6.length]
        exact sd_rel (fun _ _ h => h.1) _ haa hR
      ·rintro L6 H6 ⟨Hd6, it6, h6, f1, f2, f3, f4, tw6, k6, ha6, hp6⟩
       repeat walk_at "f"
       have : hvs.length = ((held rows r).map (Nd.ext pr.2.key)).length := by rw [List.length_map, hv.length]
       rw [this, List.drop_length] at hp6
       cases hp6
       exact ⟨m, Nat.lt_succ_self m, hp, ll, Hd6, it6, lv, hfin, out', f1, f2, f3, tw6, hle0.trans (k4'.trans k6), ha6, hl0.mono fun _ _ => LineAt.mono (k4'.trans k6), hrun'⟩
 ·rintro L2 H2 ⟨ll, Hd, lv, e, g, k1, k2, hl⟩
  repeat walk_at "f"
  exact ⟨k1.trans k2, ll, lv, rfl, g, hl.mono fun _ _ => LineAt.mono k2⟩
end
end
section
set_option maxHeartbeats 4000000
theorem f869 (P) : (Kf P).lookup 869 = some (fnO (topS 39) (o "_law_pairs") .none (.str (o "law_oy0424_01") 1358) (.ref 868)) := rfl
theorem g869 (P) : codeIn (Kf P) (.ref 868) (o "_law_pairs") = true := rfl
theorem f874 (P) : (Kf P).lookup 874 = some (fnO (topS 40) (o "_law_pages") .none (.str (o "law_oy0424_01") 1358) (.ref 873)) := rfl
theorem g874 (P) : codeIn (Kf P) (.ref 873) (o "_law_pages") = true := rfl
noncomputable def pairsP : List (Int × Int) := [(0, 1), (1, 0), (1, 1), (2, 0)]
section
variable {c : Cx} {L : AL} {H : AH}
theorem c869 (hroom : 1 ≤ c.d.room) : CodeW c (.ref 869) [] [] [] L H (LstP RateAt H pairsP) := by
 refine CodeW.enterP (ns := []) (bas := []) (f869 _) (g869 _) (by first | exact room_1 hroom tt | omega) (fun vs ws hv hw => ?_) (by rfl) (by rfl) (by rfl) (by rfl) (by rfl) fun d hrm _ Pf hPf => ?_
 ·cases hv
  exact ⟨[], .nil, fun s _ => BindsTo.of_eq (by rfl)⟩
 conv in fBody _ => whnf
 repeat walk_at "f"
 refine ⟨Nat.le_of_ble_eq_true tt, fun b1 h1 => ?_⟩
 repeat walk_at "f"
 refine ⟨Nat.le_of_ble_eq_true tt, fun b2 h2 => ?_⟩
 repeat walk_at "f"
 refine ⟨Nat.le_of_ble_eq_true tt, fun b3 h3 => ?_⟩
 repeat walk_at "f"
 refine ⟨Nat.le_of_ble_eq_true tt, fun b4 h4 => ?_⟩
 repeat walk_at "f"
 refine ⟨Nat.le_of_ble_eq_true tt, fun b5 h5 => ?_⟩
 repeat walk_at "f"
 exact ⟨by walk_at "le", b5, _, rfl, by walk_at "hk", .cons ⟨b1, rfl, by walk_at "hk"⟩ (.cons ⟨b2, rfl, by walk_at "hk"⟩ (.cons ⟨b3, rfl, by walk_at "hk"⟩ (.cons ⟨b4, rfl, by walk_at "hk"⟩ .nil)))⟩
noncomputable def wholeP (r1 r2 : Row) : Row := ⟨r1.agents.filter fun a => r2.agents.contains a, r1.delays ++ r2.delays, r1.rates ++ r2.rates, r1.rules ++ r2.rules⟩
noncomputable def pairR (rows : List Row) (p : Int × Int) : Option Row := rows[p.1.toNat]?.bind fun a => rows[p.2.toNat]?.map (wholeP a)
noncomputable def wholesP (rows : List Row) : List Row := pairsP.filterMap (pairR rows)
theorem pairR_eq {rows : List Row} {p : Int × Int} {a b : Row} (h1 : rows[p.1.toNat]? = some a) (h2 : rows[p.2.toNat]? = some b) : pairR rows p = some (wholeP a b) := by
 show Option.bind _ _ = _
 rw [h1]
 show Option.map _ _ = _
 rw [h2]
 rfl
theorem pairR_some {rows : List Row} {p : Int × Int} {w : Row} (h : pairR rows p = some w) : ∃ r1 r2, rows[p.1.toNat]? = some r1 ∧ rows[p.2.toNat]? = some r2 ∧ w = wholeP r1 r2 := by
 obtain ⟨r1, e1, h⟩ := Option.bind_eq_some_iff.mp h
 obtain ⟨r2, e2, h⟩ := Option.map_eq_some_iff.mp h
 exact ⟨r1, r2, e1, e2, h.symm⟩
theorem three {cs : List Addr} (h : cs.length = 3) : ∃ c0 c1 c2, cs = [c0, c1, c2] := by
 rcases cs with _ | ⟨a, _ | ⟨b, _ | ⟨d, _ | ⟨e, cs⟩⟩⟩⟩
 ·cases h
 ·cases h
 ·cases h
 ·exact ⟨a, b, d, rfl⟩
 ·cases h
inductive PageAt (H : AH) (v : AV) (out : List (W × List W)) : Prop
 | mk' (y : Addr) (ls : List AV) (e : v = .ref y) (g : H y = some (.list ls)) (h : All2 (LineAt H) ls out)
theorem PageAt.mono {H H' : AH} {v : AV} {p : List (W × List W)} (k : HLe H H') (h : PageAt H v p) : PageAt H' v p := by obtain ⟨y, w, e, g, h1⟩ := h; exact ⟨y, w, e, k _ _ g, h1.mono fun _ _ => LineAt.mono k⟩
inductive M874 (n rx i1 j1 : Addr) (rows : List Row) (H : AH) (k : Nat) (L1 : AL) (H1 : AH) : Prop
 | mk' (Hd : AH) (wl : Addr) (vs : List AV) (xi xj : Option AV) (e1 : L1 (o "wholes") = some (.ref wl)) (own : Own Hd [(wl, .list vs), (i1, .cell xi), (j1, .cell xj)] H1) (k1 : HLe H Hd) (hdn : Hd n = some (.cell (some (.ref rx)))) (ha : All2 (RowAt Hd) vs ((pairsP.take k).filterMap (pairR rows)))
inductive I874 (ow : List (Addr × AObj)) (Hd10 : AH) (col : Nat → List AV) (k2 : Nat) (zs : List AV) (H11 : AH) : Prop
 | mk' (Hd11 : AH) (cs : List Addr) (w : Own Hd11 ow H11) (k : HLe Hd10 Hd11) (ez : zs = cs.map AV.ref) (ecl : cs.length = k2) (hcs : ∀ m a, cs[m]? = some a → Hd11 a = some (.list (col m)))
inductive J874 (ow : List (Addr × AObj)) (Hd3 : AH) (ws : List Row) (linesOf : Row → List (W × List W)) (k : Nat) (ys : List AV) (H4 : AH) : Prop
 | mk' (Hd4 : AH) (w : Own Hd4 ow H4) (k4 : HLe Hd3 Hd4) (h : All2 (PageAt Hd4) ys ((ws.take k).map linesOf))
theorem nn1 {n : Nat} : n ≠ n + 1 := Nat.ne_of_lt (Nat.lt_succ_self n)
theorem nn2 {n : Nat} : n ≠ n + 1 + 1 := Nat.ne_of_lt (Nat.lt_succ_of_lt (Nat.lt_succ_self n))
theorem pairsP_mem : ∀ p ∈ pairsP, (0 ≤ p.1 ∧ p.1 < 3) ∧ 0 ≤ p.2 ∧ p.2 < 3 := by decide
theorem tn3 {i : Int} {n : Nat} (h : 0 ≤ i ∧ i < 3) (k : 3 ≤ n) : i.toNat < n := (Int.toNat_lt h.1).mpr (Int.lt_of_lt_of_le h.2 (Int.ofNat_le.mpr k))
theorem take_pairs {rows : List Row} {k : Nat} : ((pairsP.take k).filterMap (pairR rows)).length ≤ 4 := Nat.le_trans (List.length_filterMap_le ..) (by rw [List.length_take]; exact Nat.min_le_right _ _)
theorem snocP {rows : List Row} {k : Nat} {pi pj : Int} {ra rb : Row} (hp : pairsP[k]? = some (pi, pj)) (hra : rows[pi.toNat]? = some ra) (hrb : rows[pj.toNat]? = some rb) : (pairsP.take (k + 1)).filterMap (pairR rows) = (pairsP.take k).filterMap (pairR rows) ++ [wholeP ra rb] := by
 rw [List.take_add_one, hp, List.filterMap_append]
 congr 1
 show List.filterMap (pairR rows) [(pi, pj)] = _
 rw [List.filterMap_cons, pairR_eq hra hrb]
 rfl
theorem snocM {α β : Type} {f : α → β} {xs : List α} {k : Nat} {w : α} (h : xs[k]? = some w) : (xs.take (k + 1)).map f = (xs.take k).map f ++ [f w] := by
 rw [List.take_add_one, h, List.map_append]; rfl
theorem snocF {A B : List (W × W)} {k : Nat} {q : W × W} {qs : List (W × W)} (hq : A[k]? = some q) (e : qs = (A.take k).filter fun a => B.contains a) : (A.take (k + 1)).filter (fun a => B.contains a) = qs ++ (if B.contains q then [q] else []) := by
 rw [List.take_add_one, hq, List.filter_append, ← e]
 congr 1
 show List.filter _ [q] = _
 rw [List.filter_cons]
 cases hcq : B.contains q <;> rfl
theorem All2.to {α β : Type} {R : α → β → Prop} {as : List α} {bs bs' : List β} (e : bs' = bs) (h : All2 R as bs) : All2 R as bs' := by rw [e]; exact h
theorem get_snoc {cs : List Addr} {y a : Addr} {m : Nat} (h : (cs ++ [y])[m]? = some a) : cs[m]? = some a ∨ (m = cs.length ∧ a = y) := by
 rcases Nat.lt_or_ge m cs.length with hlt | hge
 ·rw [List.getElem?_append_left hlt] at h; exact .inl h
 ·rw [List.getElem?_append_right hge] at h
  have h2 := (List.getElem?_eq_some_iff.mp h).1
  rw [List.length_singleton] at h2
  have : m = cs.length := one_of h2 hge
  subst this
  rw [Nat.sub_self] at h
  cases h
  exact .inr ⟨rfl, rfl⟩
inductive X874 (Hd6 : AH) (k2 : Nat) (x : AV) (as bs : List AV) (c : List AV) : Prop
 | mk' (u v : Addr) (p q : List AV) (hk : k2 < 3) (e : x = .int ((k2 : Int) + 1)) (hu : as[k2 + 1]? = some (.ref u)) (hv : bs[k2 + 1]? = some (.ref v)) (gu : Hd6 u = some (.list p)) (gv : Hd6 v = some (.list q)) (ec : c = p ++ q) (hz : p.length + q.length ≤ 1000000)
inductive F874 (H7 Hd6 : AH) (A B : List (W × W)) (k2 : Nat) (ys : List AV) (H8 : AH) : Prop
 | mk' (e : H8 = H7) (qs : List (W × W)) (h : All2 (PairAt Hd6) ys qs) (eq : qs = (A.take k2).filter fun a => B.contains a)
theorem c874 {rs : AV} {rows : List Row} (hroom : 5 ≤ c.d.room) (hrows : RowsAt H rs rows) (hok : RowsOk rows) (h3 : 3 ≤ rows.length) (linesOf : Row → List (W × List W))
  (hw : ∀ w ∈ wholesP rows ++ rows.take 3, RowOk w ∧ (∀ p ∈ w.rules, p.1 < rows.length) ∧ ∃ n, runH rows n [([], ⟨[], some w, lit "", []⟩)] [] = some (linesOf w)) :
  CodeW c (.ref 874) [rs] [] [] L H (LstP PageAt H ((wholesP rows ++ rows.take 3).map linesOf)) := by
 refine CodeW.enterCP (ns := [o "rows"]) (bas := [rs]) (f874 _) (g874 _) (by first | exact room_1 hroom tt | omega) (fun vs ws hv hw => ?_) (by rfl) (by decide +kernel) (by decide +kernel) (by rfl) (by rfl) (by rfl) fun d n H' hrm _ hle hcells Pf hPf => ?_
 ·exact bind1 hv fun _ _ _ => BindsTo.of_eq (by rfl)
 have ecl : cellsFrom n (fScope (topS 40)).names [] = [(o "j", n + 1 + 1), (o "i", n + 1), (o "rows", n)] := by rfl
 rw [ecl] at hcells ⊢
 have cr := hcells (o "rows") n (by simp)
 have ci := hcells (o "i") (n + 1) (by simp)
 have cj := hcells (o "j") (n + 1 + 1) (by simp)
 clear hcells ecl
 conv in fBody _ => whnf
 generalize hL0 : (fun y => if (fScope (topS 40)).names.lookup y = some .local then bindA [o "rows"] [rs] y else none) = L0
 clear hL0
 let i1 := n + 1
 let j1 := n + 1 + 1
 have hbr : bindA [o "rows"] [rs] (o "rows") = some rs := by rfl
 rw [hbr] at cr
 have hdn : (hdel (hdel H' i1) j1) n = some (.cell (some rs)) := by
  exact (hdel_ne nn2).trans ((hdel_ne nn1).trans cr.2)
 have hle' : HLe H (hdel (hdel H' i1) j1) := HLe.del cj.1 (HLe.del ci.1 hle)
 have own0 := Own.of2 (H := H') (a := i1) (b := j1) ci.2 cj.2 nn1
 generalize hdel (hdel H' i1) j1 = Hd0 at hdn hle' own0
 obtain ⟨rx, rl, rfl, hrx, hrl⟩ := hrows
 have hlen3 : 3 ≤ rl.length := by rw [hrl.length]; exact h3
 have hlen : rl.length ≤ 60 := by rw [hrl.length]; exact hok.2.2
 refine SS.seq (M874 n rx i1 j1 rows H 0) (fun _ hPs => ?_) ?_
 ·repeat walk_at "f"
  refine ⟨Nat.le_of_ble_eq_true tt, fun wl h1 => ?_⟩
  repeat walk_at "f"
  exact ⟨rfl, Hd0, wl, [], _, _, by walk_at "lk", own0.add h1, hle', hdn, .nil⟩
 rintro L1 H1 ⟨Hd, wl, vs, xi, xj, e1, own, k1, hdn1, ha⟩
 clear hdn hle' own0 ci cj cr hle hbr
 refine SS.seq (M874 n rx i1 j1 rows H 4) (fun _ hPs => ?_) ?_
 ·refine ST.forP ?_
  repeat walk_at "f"
  refine (CallW.own own (CallKW.toCall (CodeW.toKW (c869 (c := ⟨d, (fScope (topS 40)).names, [(o "j", n + 1 + 1), (o "i", n + 1), (o "rows", n)]⟩) (by first | exact room_le hroom hrm tt | exact room_le hroom hr tt | (show 1 ≤ d.room; omega)))))).mono fun v H5 hx0 => ?_
  obtain ⟨H4, ⟨k4, px, pvs, ev, gv, hv⟩, own5⟩ := hx0
  subst ev
  refine ⟨_, _, IterW.list (own5.le _ _ gv), M874 n rx i1 j1 rows H4, ?_, ?_, ?_, ?_⟩
  ·exact ⟨H4, wl, vs, xi, xj, e1, own5, HLe.rfl, k4 _ _ hdn1, ha.mono fun _ _ => RowAt.mono k4⟩
  ·rintro k L6 H6 ⟨Hd6, _, _, _, _, _, w6, k6, _⟩
   exact w6.le _ _ (k6 _ _ gv)
  ·rintro k x L6 H6 hx Pk hPk ⟨Hd6, wl6, vs6, xi6, xj6, f1, w6, k6, hdn6, ha6⟩
   obtain ⟨⟨pi, pj⟩, hp, ax, rfl, gax⟩ := hv.getL hx
   have hpm := pairsP_mem _ (List.mem_of_getElem? hp)
   obtain ⟨ra, hra⟩ : ∃ r, rows[pi.toNat]? = some r := ⟨_, List.getElem?_eq_getElem (tn3 hpm.1 h3)⟩
   obtain ⟨rb, hrb⟩ : ∃ r, rows[pj.toNat]? = some r := ⟨_, List.getElem?_eq_getElem (tn3 hpm.2 h3)⟩
   obtain ⟨va, hva, hrata⟩ := hrl.getR hra
   obtain ⟨vb, hvb, hratb⟩ := hrl.getR hrb
   have kH : HLe H Hd6 := k1.trans (k4.trans k6)
   refine AsW.tup (w6.le _ _ (k6 _ _ gax)) (by rfl) ?_
   refine d_ae ?_
   repeat walk_at "f"
   refine StoW.cel (ca := n + 1) (by with_unfolding_all rfl) (by with_unfolding_all rfl) (w6.get _ (.tail _ (.head _))) ?_
   refine d_ae ?_
   repeat walk_at "f"
   refine StoW.cel (ca := n + 1 + 1) (by with_unfolding_all rfl) (by with_unfolding_all rfl) (w6.put1.get _ (.tail _ (.tail _ (.head _)))) ?_
   refine AsEach.nil ?_
   have w7 : Own Hd6 [(wl6, .list vs6), (i1, .cell (some (.int pi))), (j1, .cell (some (.int pj)))] _ := (w6.put1 (y := .cell (some (.int pi)))).put2 (y := .cell (some (.int pj)))
   generalize hset (hset H6 (n + 1) (.cell (some (.int pi)))) (n + 1 + 1) (.cell (some (.int pj))) = H7 at w7
   refine SS.cons (ST.assignComp (cl := [(o "rows", n), (o "j", n + 1 + 1)]) (clo (by with_unfolding_all rfl)) (by with_unfolding_all rfl) ?_ (fun env h1 h2 => by show (pure (_ && _ && _ && _) : Sem Bool) = _; rw [h1, h2]; rfl))
   have dn : H7 n = some (.cell (some (.ref rx))) := w7.le _ _ hdn6
   have di : H7 (n + 1) = some (.cell (some (.int pi))) := w7.get _ (.tail _ (.head _))
   have dj : H7 (n + 1 + 1) = some (.cell (some (.int pj))) := w7.get _ (.tail _ (.tail _ (.head _)))
   have rata : RowAt Hd6 va ra := hrata.mono kH
   have ratb : RowAt Hd6 vb rb := hratb.mono kH
   obtain ⟨xa, aa, da, ta, ua, laa, lta, lua, rfl, gxa, gaa, haa, gda, gta, hta, gua, hua⟩ := rata
   obtain ⟨xb, ab, db, tb, ub, lab, ltb, lub, rfl, gxb, gab, hab, gdb, gtb, htb, gub, hub⟩ := ratb
   have okra : RowOk ra := hok.1 _ (List.mem_of_getElem? hra)
   have okrb : RowOk rb := hok.1 _ (List.mem_of_getElem? hrb)
   have hl1 : laa.length ≤ 60 := by rw [haa.length]; exact okra.count.1
   have hrx6 : Hd6 rx = some (.list rl) := kH _ _ hrx
   repeat walk_at "f"
   refine EW.cell (by with_unfolding_all rfl) (by with_unfolding_all rfl) dn ?_
   refine EW.cell (by with_unfolding_all rfl) (by with_unfolding_all rfl) di ?_
   refine SbW.list (w7.le _ _ hrx6) hpm.1.1 hva (s60 hlen) ?_
   repeat walk_at "f"
   refine SbW.list (w7.le _ _ gxa) (by decide) (x := .ref aa) rfl (by exact Nat.le_of_ble_eq_true tt) ?_
   refine ⟨_, _, IterW.list (w7.le _ _ gaa), by omega, F874 H7 Hd6 ra.agents rb.agents, ⟨rfl, [], .nil, rfl⟩, ?_, ?_, ?_⟩
   ·rintro k2 ys H8 ⟨rfl, _⟩
    exact w7.le _ _ gaa
   ·rintro d2 hrm2 _ k2 x ys L8 H8 hx2 Pk Pn hPk ⟨rfl, qs, hqs, eqs⟩
    obtain ⟨q, hq, hqa⟩ := haa.getL hx2
    repeat walk_at "f"
    refine TestsW.one ?_
    repeat walk_at "f"
    refine EW.cell (by with_unfolding_all rfl) (by with_unfolding_all rfl) dn ?_
    refine EW.cell (by with_unfolding_all rfl) (by with_unfolding_all rfl) dj ?_
    refine SbW.list (w7.le _ _ hrx6) hpm.2.1 hvb (s60 hlen) ?_
    repeat walk_at "f"
    refine SbW.list (w7.le _ _ gxb) (by decide) (x := .ref ab) rfl (by exact Nat.le_of_ble_eq_true tt) ?_
    refine CmpW.inPairs (hqa.mono w7.le) (w7.le _ _ gab) (hab.mono fun _ _ => PairAt.mono w7.le) ?_
    have et := snocF (B := rb.agents) hq eqs
    cases hcq : rb.agents.contains q with
    | true =>
     first | with_reducible refine if_t rfl ?_ | with_reducible refine IfK.t rfl ?_ | with_reducible refine IteK.t rfl ?_ | rw [if_pos rfl]
     repeat walk_at "f"
     refine ⟨rfl, qs ++ [q], hqs.append (.one hqa), ?_⟩
     rw [et, hcq, if_pos rfl]
    | false =>
     first | with_reducible refine if_f (by decide) ?_ | with_reducible refine IfK.f (by decide) ?_ | with_reducible refine IteK.f (by decide) ?_ | rw [if_neg (by decide)]
     repeat walk_at "f"
     refine ⟨rfl, qs, hqs, ?_⟩
     rw [et, hcq, if_neg (by decide), List.append_nil]
   rintro ys H8 _ ⟨rfl, qs, hqs, eqs⟩ D hD
   rw [haa.length, List.take_length] at eqs
   have w8 := w7.alloc (o := .list ys) hD
   have hDd := w7.back hD
   repeat walk_at "f"
   refine ⟨⟨⟨_, w8.get _ (.head _)⟩, rfl⟩, ?_⟩
   repeat walk_at "f"
   refine ⟨Nat.le_of_ble_eq_true tt, fun b1 h1 => ?_⟩
   have w9 := w8.alloc (o := .list [.ref D]) h1
   have h1d := w8.back h1
   refine EW.comp (cl := [(o "rows", n), (o "j", n + 1 + 1), (o "i", n + 1)]) (clo (by with_unfolding_all rfl)) ?_
   repeat walk_at "f"
   refine ⟨Nat.le_of_ble_eq_true tt, fun b2 h2 => ?_⟩
   have w10 := w9.alloc (o := .tup [.int 1, .int 2, .int 3]) h2
   have h2d := w9.back h2
   have kk : HLe Hd6 (hset (hset (hset Hd6 D (.list ys)) b1 (.list [.ref D])) b2 (.tup [.int 1, .int 2, .int 3])) := HLe.put h2d (HLe.put h1d (HLe.new hDd))
   generalize hgen : hset (hset (hset Hd6 D (.list ys)) b1 (.list [.ref D])) b2 (.tup [.int 1, .int 2, .int 3]) = Hd10 at w10 kk
   generalize hgen2 : hset (hset (hset H8 D (.list ys)) b1 (.list [.ref D])) b2 (.tup [.int 1, .int 2, .int 3]) = H10 at w10
   have gD : Hd10 D = some (.list ys) := by rw [← hgen]; exact hset_old h2d (hset_old h1d (hset_same _ _ _))
   have g1 : Hd10 b1 = some (.list [.ref D]) := by rw [← hgen]; exact hset_old h2d (hset_same _ _ _)
   have g2 : Hd10 b2 = some (.tup [.int 1, .int 2, .int 3]) := by rw [← hgen]; exact hset_same _ _ _
   clear hgen hgen2
   let col : Nat → List AV := fun k => if k = 0 then (ra.delays ++ rb.delays).map .int else if k = 1 then lta ++ ltb else lua ++ lub
   refine ⟨_, _, IterW.tup (w10.le _ _ g2), by simp, I874 [(wl6, .list vs6), (i1, .cell (some (.int pi))), (j1, .cell (some (.int pj)))] Hd10 col, ⟨Hd10, [], w10, HLe.rfl, rfl, rfl, fun m a h => nomatch h⟩, ?_, ?_, ?_⟩
   ·rintro k2 zs H11 ⟨Hd11, cs, w11, k11, _⟩
    exact w11.le _ _ (k11 _ _ g2)
   ·rintro d2 hrm2 _ k2 x zs L8 H11 hx2 Pk Pn hPk ⟨Hd11, cs, w11, k11, ez, ecl, hcs⟩
    have kHd : HLe Hd6 Hd11 := kk.trans k11
    have en : H11 n = some (.cell (some (.ref rx))) := w11.le _ _ (kHd _ _ hdn6)
    have ei : H11 (n + 1) = some (.cell (some (.int pi))) := w11.get _ (.tail _ (.head _))
    have ej : H11 (n + 1 + 1) = some (.cell (some (.int pj))) := w11.get _ (.tail _ (.tail _ (.head _)))
    have hx3 : X874 Hd6 k2 x [AV.ref aa, .ref da, .ref ta, .ref ua] [AV.ref ab, .ref db, .ref tb, .ref ub] (col k2) := by
     rcases k2 with _ | _ | _ | k2
     ·cases hx2
      exact ⟨da, db, _, _, by decide, rfl, rfl, rfl, gda, gdb, by show List.map _ _ = _; rw [List.map_append], by rw [List.length_map, List.length_map]; exact addD okra.small2 okrb.small2 tt⟩
     ·cases hx2
      exact ⟨ta, tb, _, _, by decide, rfl, rfl, rfl, gta, gtb, rfl, by rw [hta.length, htb.length]; exact addD okra.small okrb.small tt⟩
     ·cases hx2
      exact ⟨ua, ub, _, _, by decide, rfl, rfl, rfl, gua, gub, rfl, by rw [hua.length, hub.length]; exact addD okra.count.2 okrb.count.2 tt⟩
     ·cases hx2
    obtain ⟨u, v, p, q, hk3, rfl, hu3, hv3, gu3, gv3, ecol, hpq⟩ := hx3
    repeat walk_at "f"
    refine TestsW.nil ?_
    first | with_reducible refine if_t rfl ?_ | with_reducible refine IfK.t rfl ?_ | with_reducible refine IteK.t rfl ?_ | rw [if_pos rfl]
    repeat walk_at "f"
    refine EW.cell (by with_unfolding_all rfl) (by with_unfolding_all rfl) en ?_
    refine EW.cell (by with_unfolding_all rfl) (by with_unfolding_all rfl) ei ?_
    refine SbW.list (w11.le _ _ (kHd _ _ hrx6)) hpm.1.1 hva (s60 hlen) ?_
    repeat walk_at "f"
    refine SbW.list (w11.le _ _ (kHd _ _ gxa)) (Int.natCast_nonneg (k2 + 1)) (x := .ref u) hu3 (by exact Nat.le_of_ble_eq_true tt) ?_
    repeat walk_at "f"
    refine EW.cell (by with_unfolding_all rfl) (by with_unfolding_all rfl) en ?_
    refine EW.cell (by with_unfolding_all rfl) (by with_unfolding_all rfl) ej ?_
    refine SbW.list (w11.le _ _ (kHd _ _ hrx6)) hpm.2.1 hvb (s60 hlen) ?_
    repeat walk_at "f"
    refine SbW.list (w11.le _ _ (kHd _ _ gxb)) (Int.natCast_nonneg (k2 + 1)) (x := .ref v) hv3 (by exact Nat.le_of_ble_eq_true tt) ?_
    refine OpW.addL (w11.le _ _ (kHd _ _ gu3)) (w11.le _ _ (kHd _ _ gv3)) hpq fun y hy => ?_
    have w12 := w11.alloc (o := .list (p ++ q)) hy
    have hyd := w11.back hy
    repeat walk_at "f"
    refine ⟨_, cs ++ [y], w12, HLe.put hyd k11, by rw [ez, List.map_append]; rfl, by rw [List.length_append, ecl]; rfl, fun m a hm => ?_⟩
    rcases get_snoc hm with hm | ⟨rfl, rfl⟩
    ·exact HLe.new hyd _ _ (hcs m a hm)
    ·rw [hset_same, ecl, ecol]
   rintro zs H11 _ ⟨Hd11, cs, w11, k11, ez, ecl, hcs⟩ E hE
   have w12 := w11.alloc (o := .list zs) hE
   have hEd := w11.back hE
   refine OpW.addL (as := [.ref D]) (bs := zs) (w12.le _ _ (HLe.put hEd k11 _ _ g1)) (hset_same _ _ _) (by rw [ez]; simp [ecl]) fun G hG => ?_
   have w13 := w12.alloc (o := .list ([.ref D] ++ zs)) hG
   have hGd := w12.back hG
   repeat walk_at "f"
   refine CallW.append (w13.get _ (.head _)) (by rw [ha6.length]; exact leD take_pairs tt) ?_
   repeat walk_at "f"
   have kF : HLe Hd6 (hset (hset Hd11 E (.list zs)) G (.list ([.ref D] ++ zs))) := HLe.put hGd (HLe.put hEd (kk.trans k11))
   have kF11 : HLe Hd11 (hset (hset Hd11 E (.list zs)) G (.list ([.ref D] ++ zs))) := HLe.put hGd (HLe.new hEd)
   refine ⟨trivial, _, wl6, _, _, _, by walk_at "lk", w13.put0, k6.trans kF, kF _ _ hdn6, ?_⟩
   refine All2.to (snocP hp hra hrb) ((ha6.mono fun _ _ => RowAt.mono kF).append (.one ?_))
   obtain ⟨c0, c1, c2, rfl⟩ := three ecl
   subst ez
   exact ⟨G, D, c0, c1, c2, ys, lta ++ ltb, lua ++ lub, rfl, hset_same _ _ _, kF11 _ _ (k11 _ _ gD), by rw [eqs] at hqs; exact hqs.mono fun _ _ => PairAt.mono kF, kF11 _ _ (hcs 0 c0 rfl), kF11 _ _ (hcs 1 c1 rfl), (hta.append htb).mono fun _ _ => RateAt.mono kF, kF11 _ _ (hcs 2 c2 rfl), (hua.append hub).mono fun _ _ => RuleAt.mono kF⟩
  ·rintro L6 H6 ⟨Hd6, wl6, vs6, xi6, xj6, f1, w6, k6, hdn6, ha6⟩
   rw [hv.length] at ha6
   repeat walk_at "f"
   exact ⟨rfl, Hd6, wl6, vs6, xi6, xj6, f1, w6, k1.trans (k4.trans k6), hdn6, ha6⟩
 clear e1 own k1 hdn1 ha xi xj vs wl Hd L1 H1
 rintro L1 H1 ⟨Hd, wl, vs, xi, xj, e1, own, k1, hdn1, ha⟩
 have ewh : (pairsP.take 4).filterMap (pairR rows) = wholesP rows := rfl
 rw [ewh] at ha
 have hvl : vs.length ≤ 4 := by rw [ha.length]; exact Nat.le_trans (List.length_filterMap_le ..) (by decide)
 repeat walk_at "f"
 refine EW.comp (cl := [(o "rows", n)]) (clo (by with_unfolding_all rfl)) ?_
 refine EW.binop ?_
 refine EW.name (by with_unfolding_all rfl) e1 ?_
 refine EW.subTo (k := 3) ?_
 refine EW.cell (by with_unfolding_all rfl) (by with_unfolding_all rfl) (own.le _ _ hdn1) ?_
 refine ⟨rx, rl, rfl, own.le _ _ (k1 _ _ hrx), s60 hlen, fun E hE => ?_⟩
 have w2 := own.alloc (o := .list (rl.take 3)) hE
 have hEd := own.back hE
 refine OpW.addL (w2.get _ (.head _)) (hset_same _ _ _) (by rw [List.length_take]; exact addD hvl (Nat.min_le_left ..) tt) fun G hG => ?_
 have w3 := w2.alloc (o := .list (vs ++ rl.take 3)) hG
 have hGd := w2.back hG
 have kk : HLe Hd (hset (hset Hd E (.list (rl.take 3))) G (.list (vs ++ rl.take 3))) := HLe.put hGd (HLe.new hEd)
 have gG : (hset (hset Hd E (.list (rl.take 3))) G (.list (vs ++ rl.take 3))) G = some (.list (vs ++ rl.take 3)) := hset_same _ _ _
 generalize hset (hset Hd E (.list (rl.take 3))) G (.list (vs ++ rl.take 3)) = Hd3 at w3 kk gG
 generalize hset (hset H1 E (.list (rl.take 3))) G (.list (vs ++ rl.take 3)) = H3 at w3
 have hall : All2 (RowAt Hd3) (vs ++ rl.take 3) (wholesP rows ++ rows.take 3) := (ha.mono fun _ _ => RowAt.mono kk).append ((hrl.take 3).mono fun _ _ => RowAt.mono (k1.trans kk))
 have hallen : (vs ++ rl.take 3).length ≤ 100000 := by rw [List.length_append, List.length_take]; exact addD hvl (Nat.min_le_left ..) tt
 generalize vs ++ rl.take 3 = us at gG hall hallen
 refine ⟨_, _, IterW.list (w3.le _ _ gG), hallen, J874 [(wl, .list vs), (i1, .cell xi), (j1, .cell xj)] Hd3 (wholesP rows ++ rows.take 3) linesOf, ⟨Hd3, w3, HLe.rfl, .nil⟩, ?_, ?_, ?_⟩
 ·rintro k ys H4 ⟨Hd4, w4, k4, _⟩
  exact w4.le _ _ (k4 _ _ gG)
 ·rintro d2 hrm2 _ k x ys L8 H4 hx Pk Pn hPk ⟨Hd4, w4, k4, hys⟩
  obtain ⟨w, hwk, hwa⟩ := hall.getL hx
  obtain ⟨okw, okw2, nw, hrunw⟩ := hw w (List.mem_of_getElem? hwk)
  obtain ⟨xw, aw, dw, tw, uw, l1, l2, l3, ex, rest⟩ := id hwa
  subst ex
  repeat walk_at "f"
  refine TestsW.nil ?_
  first | with_reducible refine if_t rfl ?_ | with_reducible refine IfK.t rfl ?_ | with_reducible refine IteK.t rfl ?_ | rw [if_pos rfl]
  repeat walk_at "f"
  refine EW.cell (by with_unfolding_all rfl) (by with_unfolding_all rfl) (w4.le _ _ (k4 _ _ (kk _ _ hdn1))) ?_
  repeat walk_at "f"
  refine (CallW.own w4 (CallKW.toCall (CodeW.toKW (c862 (rs := .ref rx) (rows := rows) (by first | exact room_le2 hroom hrm hrm2 tt | (replace hrm2 : d2.room = d.room := hrm2; show 4 ≤ d2.room; omega) | (show 4 ≤ d2.room; omega)) (hwa.mono k4) (⟨rx, rl, rfl, k4 _ _ (kk _ _ (k1 _ _ hrx)), hrl.mono fun _ _ => RowAt.mono (k1.trans (kk.trans k4))⟩) hok okw okw2 hrunw)))).mono fun v H5 hx0 => ?_
  obtain ⟨H6, ⟨k6, px, pvs, ev, gv, hv⟩, w6⟩ := hx0
  subst ev
  repeat walk_at "f"
  refine ⟨H6, w6, k4.trans k6, ?_⟩
  refine All2.to (snocM hwk) ?_
  exact (hys.mono fun _ _ => PageAt.mono k6).append (.one ⟨px, pvs, rfl, gv, hv⟩)
 rintro ys H4 _ ⟨Hd4, w4, k4, hys⟩ D hD
 rw [hall.length, List.take_length] at hys
 have w5 := w4.alloc (o := .list ys) hD
 have hDd := w4.back hD
 repeat walk_at "f"
 refine ⟨(k1.trans (kk.trans k4)).trans ((HLe.new hDd).trans w5.le), D, ys, rfl, w5.le _ _ (hset_same _ _ _), hys.mono fun _ _ => PageAt.mono ((HLe.new hDd).trans w5.le)⟩
end
end
section
theorem All2.setAt {α β : Type} {R R' : α → β → Prop} {as : List α} {bs : List β} (h : All2 R as bs) : ∀ {i : Nat} {a : α} {b' : β}, as[i]? = some a → (∀ j a b, j ≠ i → as[j]? = some a → R a b → R' a b) → R' a b' → All2 R' as (bs.set i b') := by
 induction h with
 | nil => intro i a b' e; simp at e
 | @cons a0 b0 as bs hh t ih =>
  intro i a b' e ho hn
  cases i with
  | zero =>
   simp at e; subst e
   refine .cons hn ?_
   clear ih
   have : ∀ j a b, as[j]? = some a → R a b → R' a b := fun j a b q r => ho (j + 1) a b (by omega) (by simpa using q) r
   clear ho hn hh
   induction t with
   | nil => exact .nil
   | cons h1 _ ih => exact .cons (this 0 _ _ rfl h1) (ih fun j a b q r => this (j + 1) a b (by simpa using q) r)
  | succ i =>
   exact .cons (ho 0 _ _ (by omega) rfl hh) (ih (by simpa using e) (fun j a b hj q r => ho (j + 1) a b (by omega) (by simpa using q) r) hn)
structure Lay where
 x : Addr
 a : Addr
 d : Addr
 t : Addr
 u : Addr
noncomputable def Lay.all (l : Lay) : List Addr := [l.x, l.a, l.d, l.t, l.u]
inductive RowLay (H : AH) (l : Lay) (r : Row) : Prop
 | mk' (la lt lu : List AV) (g : H l.x = some (.list [.ref l.a, .ref l.d, .ref l.t, .ref l.u])) (h1 : H l.a = some (.list la)) (h2 : All2 (PairAt H) la r.agents)
  (h3 : H l.d = some (.list (r.delays.map .int))) (h4 : H l.t = some (.list lt)) (h5 : All2 (RateAt H) lt r.rates) (h6 : H l.u = some (.list lu)) (h7 : All2 (RuleAt H) lu r.rules)
theorem RowLay.row {H : AH} {l : Lay} {r : Row} (h : RowLay H l r) : RowAt H (.ref l.x) r := by obtain ⟨la, lt, lu, g, h1, h2, h3, h4, h5, h6, h7⟩ := h; exact ⟨l.x, l.a, l.d, l.t, l.u, la, lt, lu, rfl, g, h1, h2, h3, h4, h5, h6, h7⟩
theorem PairAt.put {H : AH} {a : Addr} {xs ys : List AV} {v : AV} {p : W × W} (ha : H a = some (.list xs)) (h : PairAt H v p) : PairAt (hset H a (.list ys)) v p := by
 obtain ⟨b, e, g⟩ := h
 exact ⟨b, e, (hset_ne fun q => by rw [q, ha] at g; cases g).trans g⟩
theorem RateAt.put {H : AH} {a : Addr} {xs ys : List AV} {v : AV} {p : Int × Int} (ha : H a = some (.list xs)) (h : RateAt H v p) : RateAt (hset H a (.list ys)) v p := by
 obtain ⟨b, e, g⟩ := h
 exact ⟨b, e, (hset_ne fun q => by rw [q, ha] at g; cases g).trans g⟩
theorem RuleAt.put {H : AH} {a : Addr} {xs ys : List AV} {v : AV} {p : Nat × W × W} (ha : H a = some (.list xs)) (h : RuleAt H v p) : RuleAt (hset H a (.list ys)) v p := by
 obtain ⟨b, e, g⟩ := h
 exact ⟨b, e, (hset_ne fun q => by rw [q, ha] at g; cases g).trans g⟩
theorem RowLay.mono {H H' : AH} {l : Lay} {r : Row} (k : HLe H H') (h : RowLay H l r) : RowLay H' l r := by
 obtain ⟨la, lt, lu, g, h1, h2, h3, h4, h5, h6, h7⟩ := h
 exact ⟨la, lt, lu, k _ _ g, k _ _ h1, h2.mono fun _ _ => PairAt.mono k, k _ _ h3, k _ _ h4, h5.mono fun _ _ => RateAt.mono k, k _ _ h6, h7.mono fun _ _ => RuleAt.mono k⟩
theorem RowLay.other {H : AH} {l : Lay} {r : Row} {b : Addr} {xs ys : List AV} (hb : H b = some (.list xs)) (hn : b ∉ l.all) (h : RowLay H l r) : RowLay (hset H b (.list ys)) l r := by
 obtain ⟨la, lt, lu, g, h1, h2, h3, h4, h5, h6, h7⟩ := h
 have n : ∀ a, a ∈ l.all → a ≠ b := fun a ha q => hn (q ▸ ha)
 refine ⟨la, lt, lu, (hset_ne (n _ ?_)).trans g, (hset_ne (n _ ?_)).trans h1, h2.mono fun _ _ => PairAt.put hb, (hset_ne (n _ ?_)).trans h3, (hset_ne (n _ ?_)).trans h4, h5.mono fun _ _ => RateAt.put hb, (hset_ne (n _ ?_)).trans h6, h7.mono fun _ _ => RuleAt.put hb⟩ <;> simp [Lay.all]
theorem RowLay.setA {H : AH} {l : Lay} {r : Row} {v : AV} {p : W × W} (hd : l.all.Nodup) (h : RowLay H l r) (hv : PairAt H v p) : ∃ la, H l.a = some (.list la) ∧ la.length = r.agents.length ∧ RowLay (hset H l.a (.list (la ++ [v]))) l { r with agents := r.agents ++ [p] } := by
 obtain ⟨la, lt, lu, g, h1, h2, h3, h4, h5, h6, h7⟩ := h
 simp only [Lay.all, List.nodup_cons, List.mem_cons, List.not_mem_nil, or_false, not_or] at hd
 obtain ⟨⟨n1, n2, n3, n4⟩, ⟨n5, n6, n7⟩, ⟨n8, n9⟩, n10, _⟩ := hd
 exact ⟨la, h1, h2.length, _, lt, lu, (hset_ne n1).trans g, hset_same _ _ _, (h2.mono fun _ _ => PairAt.put h1).append (.one (hv.put h1)), (hset_ne (Ne.symm n5)).trans h3, (hset_ne (Ne.symm n6)).trans h4, h5.mono fun _ _ => RateAt.put h1, (hset_ne (Ne.symm n7)).trans h6, h7.mono fun _ _ => RuleAt.put h1⟩
theorem RowLay.setD {H : AH} {l : Lay} {r : Row} {i : Int} (hd : l.all.Nodup) (h : RowLay H l r) : H l.d = some (.list (r.delays.map .int)) ∧ RowLay (hset H l.d (.list (r.delays.map .int ++ [.int i]))) l { r with delays := r.delays ++ [i] } := by
 obtain ⟨la, lt, lu, g, h1, h2, h3, h4, h5, h6, h7⟩ := h
 simp only [Lay.all, List.nodup_cons, List.mem_cons, List.not_mem_nil, or_false, not_or] at hd
 obtain ⟨⟨n1, n2, n3, n4⟩, ⟨n5, n6, n7⟩, ⟨n8, n9⟩, n10, _⟩ := hd
 exact ⟨h3, la, lt, lu, (hset_ne n2).trans g, (hset_ne n5).trans h1, h2.mono fun _ _ => PairAt.put h3, by rw [hset_same, List.map_append]; rfl, (hset_ne (Ne.symm n8)).trans h4, h5.mono fun _ _ => RateAt.put h3, (hset_ne (Ne.symm n9)).trans h6, h7.mono fun _ _ => RuleAt.put h3⟩
theorem RowLay.setT {H : AH} {l : Lay} {r : Row} {v : AV} {p : Int × Int} (hd : l.all.Nodup) (h : RowLay H l r) (hv : RateAt H v p) : ∃ lt, H l.t = some (.list lt) ∧ lt.length = r.rates.length ∧ RowLay (hset H l.t (.list (lt ++ [v]))) l { r with rates := r.rates ++ [p] } := by
 obtain ⟨la, lt, lu, g, h1, h2, h3, h4, h5, h6, h7⟩ := h
 simp only [Lay.all, List.nodup_cons, List.mem_cons, List.not_mem_nil, or_false, not_or] at hd
 obtain ⟨⟨n1, n2, n3, n4⟩, ⟨n5, n6, n7⟩, ⟨n8, n9⟩, n10, _⟩ := hd
 exact ⟨lt, h4, h5.length, la, _, lu, (hset_ne n3).trans g, (hset_ne n6).trans h1, h2.mono fun _ _ => PairAt.put h4, (hset_ne n8).trans h3, hset_same _ _ _, (h5.mono fun _ _ => RateAt.put h4).append (.one (hv.put h4)), (hset_ne (Ne.symm n10)).trans h6, h7.mono fun _ _ => RuleAt.put h4⟩
theorem RowLay.setU {H : AH} {l : Lay} {r : Row} {v : AV} {p : Nat × W × W} (hd : l.all.Nodup) (h : RowLay H l r) (hv : RuleAt H v p) : ∃ lu, H l.u = some (.list lu) ∧ lu.length = r.rules.length ∧ RowLay (hset H l.u (.list (lu ++ [v]))) l { r with rules := r.rules ++ [p] } := by
 obtain ⟨la, lt, lu, g, h1, h2, h3, h4, h5, h6, h7⟩ := h
 simp only [Lay.all, List.nodup_cons, List.mem_cons, List.not_mem_nil, or_false, not_or] at hd
 obtain ⟨⟨n1, n2, n3, n4⟩, ⟨n5, n6, n7⟩, ⟨n8, n9⟩, n10, _⟩ := hd
 exact ⟨lu, h6, h7.length, la, lt, _, (hset_ne n4).trans g, (hset_ne n7).trans h1, h2.mono fun _ _ => PairAt.put h6, (hset_ne n9).trans h3, (hset_ne n10).trans h4, h5.mono fun _ _ => RateAt.put h6, hset_same _ _ _, (h7.mono fun _ _ => RuleAt.put h6).append (.one (hv.put h6))⟩
end
section
noncomputable def reCode : Array Nat := #[14, 17, 4, 1, 1, 21, 9, 0, 604043296, 1, 0, 0, 0, 0, 0, 8, 4, 0, 13, 14, 21, 9, 0, 604043296, 1, 0, 0, 0, 0, 0, 8, 4, 0, 1]
noncomputable def safeC (c : Nat) : Bool := (c < 256 && (reCode.getD (6 + (1 + c / 32)) 0).testBit (c % 32)) || Sre.isWord c
theorem inSet_re (c : Nat) (seen : Sre.Seen) : ∃ s', Sre.inSet reCode c reCode.size 5 true seen = .ok (!safeC c, s') := by
 have e : reCode.size = 34 := rfl
 rw [e]
 show ∃ s', Sre.inSet reCode c 33 6 false _ = _
 show ∃ s', (if (c < 256 && (reCode.getD (6 + (1 + c / 32)) 0).testBit (c % 32)) = true then _ else _) = _
 unfold safeC
 cases h : (decide (c < 256) && (reCode.getD (6 + (1 + c / 32)) 0).testBit (c % 32)) with
 | true => exact ⟨_, if_pos rfl⟩
 | false =>
  rw [if_neg (by decide)]
  have hc : Sre.category 4 c = .ok (Sre.isWord c) := by unfold Sre.category; show Except.ok (Sre.isWord c != false) = _; cases Sre.isWord c <;> rfl
  generalize (seen.add _).add _ = s2
  show ∃ s', Sre.inSet reCode c 32 15 false s2 = _
  show ∃ s', (Sre.category 4 c >>= fun y => if y = true then pure (false, _) else Sre.inSet reCode c 31 17 false _) = _
  rw [hc]
  cases Sre.isWord c with
  | true => exact ⟨_, rfl⟩
  | false => exact ⟨_, rfl⟩
theorem admitted_re (m : Sre.M) (hc : m.code = reCode) : ∀ (fuel s : Nat) (seen : Sre.Seen), m.lim < s + fuel → ∃ r s', Sre.M.admitted m fuel s seen = .ok (r, s') ∧ (r = none ↔ ∀ j, s ≤ j → j < m.lim → safeC (m.text.getD j 0) = true) ∧ ∀ k, r = some k → s ≤ k ∧ k < m.lim ∧ safeC (m.text.getD k 0) = false
 | 0, s, seen, h => ⟨none, seen, rfl, ⟨fun _ j h1 h2 => absurd h2 (by omega), fun _ => rfl⟩, fun k e => nomatch e⟩
 | fuel + 1, s, seen, h => by
  unfold Sre.M.admitted
  by_cases hs : s ≥ m.lim
  ·rw [if_pos hs]
   exact ⟨none, seen, rfl, ⟨fun _ j h1 h2 => absurd h2 (by omega), fun _ => rfl⟩, fun k e => nomatch e⟩
  ·rw [if_neg hs]
   obtain ⟨s', e⟩ := inSet_re (m.text.getD s 0) seen
   rw [hc, e]
   cases hx : safeC (m.text.getD s 0) with
   | false => exact ⟨some s, s', rfl, ⟨(fun q => nomatch q), fun q => by have := q s (Nat.le_refl _) (by omega); rw [hx] at this; cases this⟩, fun k e => by cases e; exact ⟨Nat.le_refl _, by omega, hx⟩⟩
   | true =>
    obtain ⟨r, s'', e2, h2, h3⟩ := admitted_re m hc fuel (s + 1) s' (by omega)
    refine ⟨r, s'', e2, ⟨fun q j h1 h4 => ?_, fun q => h2.mpr fun j h1 h4 => q j (by omega) h4⟩, fun k e => ?_⟩
    ·rcases Nat.lt_or_ge s j with hlt | hge
     ·exact h2.mp q j hlt h4
     ·have : j = s := by omega
      rw [this]; exact hx
    ·obtain ⟨a, b, c⟩ := h3 k e
     exact ⟨by omega, b, c⟩
theorem inSet_re2 (c : Nat) (seen : Sre.Seen) : ∃ s', Sre.inSet reCode c reCode.size 20 true seen = .ok (!safeC c, s') := by
 have e : reCode.size = 34 := rfl
 rw [e]
 show ∃ s', Sre.inSet reCode c 33 21 false _ = _
 have eq : ∀ k, k < 8 → reCode.getD (21 + (1 + k)) 0 = reCode.getD (6 + (1 + k)) 0 := by decide
 show ∃ s', (if (c < 256 && (reCode.getD (21 + (1 + c / 32)) 0).testBit (c % 32)) = true then _ else _) = _
 have eb : (decide (c < 256) && (reCode.getD (21 + (1 + c / 32)) 0).testBit (c % 32)) = (decide (c < 256) && (reCode.getD (6 + (1 + c / 32)) 0).testBit (c % 32)) := by
  by_cases hc : c < 256
  ·rw [eq _ (by omega)]
  ·rw [decide_eq_false hc]; rfl
 rw [eb]
 unfold safeC
 cases h : (decide (c < 256) && (reCode.getD (6 + (1 + c / 32)) 0).testBit (c % 32)) with
 | true => exact ⟨_, if_pos rfl⟩
 | false =>
  rw [if_neg (by decide)]
  have hc : Sre.category 4 c = .ok (Sre.isWord c) := by unfold Sre.category; show Except.ok (Sre.isWord c != false) = _; cases Sre.isWord c <;> rfl
  generalize (seen.add _).add _ = s2
  show ∃ s', Sre.inSet reCode c 32 30 false s2 = _
  show ∃ s', (Sre.category 4 c >>= fun y => if y = true then pure (false, _) else Sre.inSet reCode c 31 32 false _) = _
  rw [hc]
  cases Sre.isWord c with
  | true => exact ⟨_, rfl⟩
  | false => exact ⟨_, rfl⟩
noncomputable def m0 (text : Array Nat) : Sre.M := { code := reCode, text, lim := text.size, start := 0, pc := 18, pos := 0, handed := 0, marks := #[], mustAdvance := false, seen := ({} : Sre.Seen).add 14, lastStart := text.size }
theorem search_eq (text : Array Nat) (h : 0 < text.size) : Sre.forSearch reCode text 0 0 text.size false = (m0 text).attemptFrom 0 true := by
 unfold Sre.forSearch
 show (if (decide (0 > text.size) || decide (text.size - 0 < 1)) = true then _ else _) = _
 rw [if_neg (fun q => by rcases Bool.or_eq_true_iff.mp q with q | q <;> have := of_decide_eq_true q <;> omega)]
 rfl
theorem search_none {text : Array Nat} (h : 0 < text.size) (ha : ∀ j, j < text.size → safeC (text.getD j 0) = true) : ((Sre.forSearch reCode text 0 0 text.size false).runFor 4).outcome = some .failed := by
 rw [search_eq text h]
 obtain ⟨r, s', e, h1, h2⟩ := admitted_re (m0 text) rfl (text.size + 1 - 0) 0 (m0 text).seen (by show text.size < _; omega)
 have : r = none := h1.mpr fun j _ hj => ha j hj
 subst this
 have hf : (m0 text).hasFirstSet = true := rfl
 unfold Sre.M.attemptFrom
 rw [if_neg (by rw [hf]; decide)]
 have e' : Sre.M.admitted (m0 text) ((m0 text).lim + 1 - 0) 0 (m0 text).seen = .ok (none, s') := e
 rw [e']
 rfl
noncomputable def m1 (text : Array Nat) (k : Nat) (s : Sre.Seen) : Sre.M := { m0 text with mustAdvance := false, seen := s, start := k, pos := k, lastmark := -1, lastindex := -1, frames := [{ wait := .nextStart, pc := 18, pos := k, outermost := true }], weight := 1, handed := k, outermost := true }
theorem step1 {text : Array Nat} {k : Nat} {s : Sre.Seen} (hk : k < text.size) (hu : safeC (text.getD k 0) = false) : ∃ s', (m1 text k s).step = { m1 text k s with seen := s', pc := 33, pos := k + 1 } := by
 obtain ⟨s', e⟩ := inSet_re2 (text.getD k 0) ((m1 text k s).seen.add 13)
 rw [hu] at e
 refine ⟨s', ?_⟩
 show (if (m1 text k s).pos ≥ (m1 text k s).lim then _ else match Sre.inSet reCode (text.getD k 0) reCode.size 20 true ((m1 text k s).seen.add 13) with | .error why => _ | .ok (false, seen) => _ | .ok (true, seen) => _) = _
 have hlt : ¬ (m1 text k s).pos ≥ (m1 text k s).lim := Nat.not_le.mpr hk
 rw [if_neg hlt, e]
 rfl
theorem search_some {text : Array Nat} (h : 0 < text.size) (hz : text.size ≤ 100000) (ha : ¬ ∀ j, j < text.size → safeC (text.getD j 0) = true) : ∃ m, ((Sre.forSearch reCode text 0 0 text.size false).runFor 4) = m ∧ m.outcome = some .matched ∧ m.lastmark = -1 := by
 rw [search_eq text h]
 obtain ⟨r, s', e, h1, h2⟩ := admitted_re (m0 text) rfl (text.size + 1 - 0) 0 (m0 text).seen (by show text.size < _; omega)
 cases r with
 | none => exact absurd (fun j hj => h1.mp rfl j (Nat.zero_le _) hj) ha
 | some k =>
  obtain ⟨_, hk, hu⟩ := h2 k rfl
  have hf : (m0 text).hasFirstSet = true := rfl
  unfold Sre.M.attemptFrom
  rw [if_neg (by rw [hf]; decide)]
  have e' : Sre.M.admitted (m0 text) ((m0 text).lim + 1 - 0) 0 (m0 text).seen = .ok (some k, s') := e
  rw [e']
  obtain ⟨s2, e2⟩ := step1 (s := s') hk hu
  have e3 : Sre.M.runFor 4 (m1 text k s') = Sre.M.runFor 3 (m1 text k s').step := rfl
  rw [e2] at e3
  exact ⟨_, rfl, (congrArg Sre.M.outcome e3).trans rfl, (congrArg Sre.M.lastmark e3).trans rfl⟩
end
section
theorem sig_re {x : Str} {t : Tok} : (Manifest.signature? "re.Pattern.search").map (fun sg => Bind.checkArgs "re.Pattern.search" { sg with full := s!"{Bind.lastOf "re.Pattern"}.{Bind.lastOf "re.Pattern.search"}" } ⟨[.ref 126, .str x t], []⟩) = some (pure ()) := by kernel_rfl
theorem kind_re : builtinKind "re.Pattern.search" = some .method := by kernel_rfl
theorem var_re : Manifest.varargsMethods.contains "re.Pattern.search" = false := by decide +kernel
theorem sub_re : isSubtype (.type "re.Pattern") (.type "module") = pure false := by rw [isSubtype_type]; kernel_rfl
theorem check_re {w : World} {A : Around} {E : Value → Shared → Prop} {s : Shared} {Q : Unit → Shared → Prop} {x : Str} {t : Tok} {ob : Obj} {vs : Array Value} (g : s.heap.get? 126 = some ob) (hc : ob.cls = .type "re.Pattern") (hd : ob.data = .fields vs) (h : Q () s) :
  wpAny (model prg w) A (checkBoundCall "re.Pattern.search" ⟨[.ref 126, .str x t], []⟩) Q E s := by
 have hT : s.TypeIs (.ref 126) "re.Pattern" := ⟨_, g, hc⟩
 have hsg := sig_re (x := x) (t := t)
 unfold checkBoundCall
 cases hs : Manifest.signature? "re.Pattern.search" with
 | none => rw [hs] at hsg; cases hsg
 | some sg =>
  rw [hs] at hsg
  have hsg' := Option.some.inj hsg
  rw [kind_re]
  simp only [var_re]
  refine wpAny_bind (wpAny_isInstance hT sub_re ?_)
  rw [if_neg (by decide)]
  refine wpAny_bind ?_
  show wpAny _ _ (loadHead 126 >>= fun o => pure (match o.data with | .cls _ => true | _ => false)) _ _ _
  refine wpAny_bind (wpAny_loadPart g (wpAny_pure ?_))
  rw [hd]
  show wpAny _ _ (do let cls ← typeOf (.ref 126); _) _ _ _
  refine wpAny_bind (wpAny_typeOf hT ?_)
  exact wpAny_of_eq hsg' h
end
section
theorem k822 (P) : (Kf P).lookup 822 = some ⟨.type "builtin_function_or_method", none, .fields #[.builtin "re.Pattern.search", r 126], #[]⟩ := rfl
theorem entry_re : entryFor table "re.Pattern.search" = some Builtin.«re.Pattern.search» := entryFor_of_tree (by kernel_rfl)
theorem quiet_re (a : Args) : (Code.builtin "re.Pattern.search" a).quiet = true := plainId_quiet (by decide +kernel) _
noncomputable def pat126 : Obj := ⟨.type "re.Pattern", none, .fields #[.str (Str.mk #[91, 94, 92, 119, 64, 37, 43, 61, 58, 44, 46, 47, 45, 93]) 444, .int 256 481, .int 0 0, .none, .none, r 125, .int 0 0], #[]⟩
theorem k126 (P) : (Kf P).lookup 126 = some pat126 := rfl
theorem k125 (P) : ∃ o, (Kf P).lookup 125 = some o ∧ ∃ its n, o.data = .seq its n ∧ (its.map Builtin.Re.reRawOf).map (·.toNat) = reCode := ⟨_, rfl, _, _, rfl, by decide +kernel⟩
theorem wpIfN {α : Type} {M : Model} {A : Around} {E : Value → Shared → Prop} {s : Shared} {Q : α → Shared → Prop} {p : Prop} [Decidable p] {a b : Sem α} (h : ¬ p) (k : wpAny M A b Q E s) : wpAny M A (if p then a else b) Q E s := by rw [if_neg h]; exact k
theorem drive_re {m : Sre.M} (h : (m.runFor 4).outcome.isSome = true) : Builtin.Re.reDrive (2 ^ 64) m = pure (m.runFor 4) := by
 show Builtin.Re.reDrive ((2 ^ 64 - 1) + 1) m = _
 unfold Builtin.Re.reDrive
 show (if (m.runFor 4).outcome.isSome = true then _ else _) = _
 rw [if_pos h]
 rfl
theorem toEnd_re {M : Model} {A : Around} {E : Value → Shared → Prop} {s : Shared} {Q : Option Sre.M → Shared → Prop} {m : Sre.M} {o : Sre.Outcome} (h : (m.runFor 4).outcome = some o) {r : Option Sre.M} (ho : (o = .matched ∧ r = some (m.runFor 4)) ∨ (o = .failed ∧ r = none)) (hq : Q r s) :
  wpAny M A (Builtin.Re.reRunToEnd m) Q E s := by
 unfold Builtin.Re.reRunToEnd
 rw [drive_re (by rw [h]; rfl)]
 refine wpAny_bind (wpAny_pure ?_)
 refine wpAny_bind ?_
 refine wpAny_forIn_list _ (fun _ _ s' => s' = s) _ ?_ ?_ _ _ rfl
 ·rintro i rest b s' rfl
  by_cases hi : (m.runFor 4).seen.has i = true
  ·rw [if_pos hi]
   exact wpAny_bind (wpAny_rule (wpAny_pure rfl))
  ·rw [if_neg hi]
   exact wpAny_pure rfl
 ·rintro b s' rfl
  rw [h]
  rcases ho with ⟨rfl, rfl⟩ | ⟨rfl, rfl⟩
  ·exact wpAny_pure hq
  ·exact wpAny_pure hq
section
variable {c : Cx} {L : AL} {H : AH} {Q : AV → AH → Prop}
theorem re_code {w : W} {t : Tok} {R : List (Addr × Obj)} {s : Shared} (S' : Sim c L H R s) (hz : w.length ≤ 100000) (h0 : 0 < w.length) {A' : Around} {P : PySem.Fin → Shared → Prop} {E' : Value → Shared → Prop}
  (h : ∀ v s', Sim c L H R s' → ((w.all safeC = true ∧ v = .none) ∨ (w.all safeC = false ∧ ∃ a, v = .ref a)) → P (.done (.ret v)) s') : wpAny (model prg c.d.w) A' (Builtin.«re.Pattern.search» ⟨[.ref 126, .str (S w) t], []⟩) P E' s := by
 show wpAny _ _ (Builtin.Re.reTarget "re.Pattern.search" "search" _ >>= fun t => Builtin.Re.reAnswer t _) _ _ _
 refine wpAny_bind ?_
 show wpAny _ _ (Builtin.Re.reNamed _ _ _ _ _ _ >>= _) _ _ _
 refine wpAny_bind (wpAny_of_eq (a := [some (.str (S w) t), none, none]) (by kernel_rfl) ?_)
 refine wpAny_bind (wpAny_pure ?_)
 dsimp only
 refine wpAny_bind (wpAny_pure ?_)
 refine wpAny_bind (wpAny_fieldsOf (S'.kin _ _ (k126 _)) rfl ?_)
 refine wpAny_bind (wpAny_of_eq (a := ((S w).cps, 0)) (by rfl) ?_)
 refine wpIfN (fun h => nomatch (show false = true from h)) (wpIfN (fun h => nomatch (show false = true from h)) ?_)
 refine wpAny_bind (wpAny_of_eq (a := ()) (by rfl) ?_)
 obtain ⟨o5, k5, its, n5, d5, e5⟩ := k125 c.d.w.params
 refine wpAny_bind ?_
 show wpAny _ _ (seqItems? (.ref 125) >>= _) _ _ _
 refine wpAny_bind (wpAny_seqItems (S'.kin _ _ k5) d5 ?_)
 refine wpAny_pure (wpAny_pure ?_)
 show wpAny _ _ (Builtin.Re.reRunToEnd (Sre.forSearch ((its.map Builtin.Re.reRawOf).map (·.toNat)) (S w).cps 0 0 (min (2 ^ 63 - 1) (S w).cps.size) false) >>= _) _ _ _
 have es : (S w).cps.size = w.length := by show w.toArray.size = _; simp
 have eg : ∀ j (hj : j < w.length), (S w).cps.getD j 0 = w[j] := fun j hj => by show w.toArray.getD j 0 = _; simp [hj]
 have el : min (2 ^ 63 - 1) (S w).cps.size = (S w).cps.size := by rw [es]; exact Nat.min_eq_right (Nat.le_trans hz (by decide))
 rw [e5, el]
 have key : (∀ j, j < (S w).cps.size → safeC ((S w).cps.getD j 0) = true) ↔ w.all safeC = true := by
  rw [List.all_eq_true, es]
  constructor
  ·intro q x hx
   obtain ⟨j, hj, rfl⟩ := List.mem_iff_getElem.mp hx
   rw [← eg j hj]; exact q j hj
  ·intro q j hj
   rw [eg j hj]; exact q _ (List.getElem_mem _)
 by_cases ha : w.all safeC = true
 ·refine wpAny_bind (toEnd_re (search_none (by rw [es]; exact h0) (key.mpr ha)) (.inr ⟨rfl, rfl⟩) ?_)
  exact wpAny_pure (h _ _ S' (.inl ⟨ha, rfl⟩))
 ·obtain ⟨m, e1, e2, e3⟩ := search_some (text := (S w).cps) (by rw [es]; exact h0) (by rw [es]; exact hz) (fun q => ha (key.mp q))
  refine wpAny_bind (toEnd_re (by rw [e1]; exact e2) (.inl ⟨rfl, rfl⟩) ?_)
  rw [e1]
  show wpAny _ _ (Builtin.Re.reNewMatch _ _ 0 _ _ m >>= _) _ _ _
  refine wpAny_bind ?_
  unfold Builtin.Re.reNewMatch
  dsimp only
  refine wpIfN (fun h => nomatch (show false = true from h)) ?_
  refine wpAny_bind (wpAny_newTuple ?_ (by exact (by decide : 2 ≤ sizeLine)))
  refine wpAny_newObj_type ?_
  refine wpAny_pure (h _ _ ?_ (.inr ⟨by simpa using ha, _, rfl⟩))
  exact S'.ext (tk := s.toks) (dr := s.drawn) fun _ _ e => Heap.get?_push_of_some _ (Heap.get?_push_of_some _ e)
theorem CallW.re {w : W} (hz : w.length ≤ 100000) (h0 : 0 < w.length) (h : ∀ a : AV, a.isBlt = false → a.isNone = w.all safeC → Q a H) : CallW c (.ref 822) [.str (S w)] L H Q := by
 rintro _ (_ | ⟨⟨t, rfl⟩, _ | _⟩) R s S'
 refine wpAny_call (codeAny_of_tree ?_)
 show wpAny _ c.d.A.in1 (callAny (.ref 822) ⟨[.str (S w) t], []⟩) _ _ s
 simp only [callAny]
 refine wpAny_bind (wpAny_load (S'.kin _ _ (k822 _)) ?_)
 simp only [show (Value.type "builtin_function_or_method" == Value.type "method" || Value.type "builtin_function_or_method" == Value.type "builtin_function_or_method" || Value.type "builtin_function_or_method" == Value.type "method-wrapper") = true by decide, if_true]
 show wpAny _ _ (if (Value.type "builtin_function_or_method" != Value.type "method") = true then _ else _) _ _ _
 rw [if_pos (by decide)]
 refine wpAny_bind (check_re (S'.kin _ _ (k126 _)) rfl rfl ?_)
 refine wpAny_bind (wpAny_pure (wpAny_pure ?_))
 refine ⟨quiet_re _, codeAny_builtin entry_re (re_code S' hz h0 fun v s' S2 hv => ?_)⟩
 rcases hv with ⟨e, rfl⟩ | ⟨e, a, rfl⟩
 ·exact ⟨.none, H, rfl, S2, h .none rfl e.symm⟩
 ·exact ⟨.ref a, H, rfl, S2, h (.ref a) rfl e.symm⟩
end
end
section
set_option maxHeartbeats 4000000
noncomputable section
noncomputable def repW (z : W) (w : W) : W := w.flatMap fun c => if c = 39 then z else [c]
theorem repW_free {z : W} : ∀ {w : W}, 39 ∉ w → repW z w = w
 | [], _ => rfl
 | c :: r, h => by
  show (if c = 39 then z else [c]) ++ repW z r = c :: r
  rw [if_neg fun e : c = 39 => h (by rw [e]; exact .head _), repW_free fun m => h (.tail _ m)]; rfl
theorem repW_join {z : W} : ∀ parts : List Str, (∀ p ∈ parts, 39 ∉ p.cps.toList) → repW z (Str.join ⟨#[39]⟩ parts).cps.toList = (Str.join (S z) parts).cps.toList
 | [], _ => rfl
 | [p], h => repW_free (h p (.head _))
 | p :: q :: r, h => by
  have ih := repW_join (z := z) (q :: r) fun a ha => h a (.tail _ ha)
  show repW z (p ++ ⟨#[39]⟩ ++ Str.join ⟨#[39]⟩ (q :: r)).cps.toList = (p ++ S z ++ Str.join (S z) (q :: r)).cps.toList
  have ea : ∀ a b : Str, (a ++ b).cps.toList = a.cps.toList ++ b.cps.toList := fun a b => by show (a.cps ++ b.cps).toList = _; simp
  rw [ea, ea, ea, ea]
  unfold repW at ih ⊢
  rw [List.flatMap_append, List.flatMap_append, ih]
  have := repW_free (z := z) (h p (.head _))
  unfold repW at this
  rw [this]
  show _ ++ (List.flatMap _ [39]) ++ _ = _
  simp [S]
theorem repW_eq (w z : W) : Txt.replace (S w) (S [39]) (S z) = S (repW z w) := by
 have h := StrLaws.replace_one (S w) (S z) 39
 have h2 := StrLaws.join_split (S w) (⟨#[39]⟩ : Str)
 have h3 := repW_join (z := z) _ (StrLaws.split_free (S w) 39)
 rw [h2] at h3
 have e1 : (S w).cps.toList = w := by show w.toArray.toList = w; simp
 rw [e1] at h3
 show Txt.replace (S w) (⟨#[39]⟩ : Str) (S z) = _
 rw [h]
 generalize Str.join (S z) (Txt.split (S w) ⟨#[39]⟩) = x at h3 ⊢
 obtain ⟨x⟩ := x
 show Str.mk x = Str.mk (repW z w).toArray
 rw [h3]
noncomputable def quoteW (w : W) : W := if w = [] then lit "''" else if w.all safeC then w else lit "'" ++ repW (lit "'\"'\"'") w ++ lit "'"
theorem repW_len (z w : W) (h : z.length ≤ 5) : (repW z w).length ≤ 5 * w.length := by
 induction w with
 | nil => exact Nat.le_refl _
 | cons c r ih =>
  show ((if c = 39 then z else [c]) ++ repW z r).length ≤ _
  rw [List.length_append, List.length_cons]
  split
  ·omega
  ·simp; omega
theorem quoteW_len (w : W) : (quoteW w).length ≤ 5 * w.length + 2 := by
 unfold quoteW
 split
 ·exact Nat.le_add_left _ _
 ·split
  ·omega
  ·have := repW_len (lit "'\"'\"'") w (by decide)
   have e : (lit "'").length = 1 := by decide
   rw [List.length_append, List.length_append, e]; omega
theorem EW.quoteRep {c : Cx} {L : AL} {H : AH} {Q : AV → AH → Prop} {w z : W} {zs : String} {k1 k2 k3 : Nat} {p1 p2 p3 np ap pos p5 : Pos} {x : Str} (hk : c.ns.lookup x = some .local) (hx : L x = some (.str (S w))) (hz : w.length ≤ 1000)
  (ez : lit zs = z) (h39 : ([39] : W) ≠ z) (hzl : z.length ≤ 5) (h : OpW c .Add (.str (S (lit "'"))) (.str (S (repW z w))) L H Q) (hd : (x == ("__debug__" : Str)) = false := by decide)
  (h1 : attributeBase (.Name x np) (Str.ofString "replace") c.d.env (eval (.Name x np) c.d.env) = eval (.Name x np) c.d.env := by with_unfolding_all rfl)
  (h2 : ((((backTo pos (starEach [.Constant (.str (Str.ofString "'")) k2 p2, .Constant (.str (Str.ofString zs)) k3 p3] c.d.env)).all fun x => !x.1) && (backToKw pos (keywordEach [] c.d.env)).all fun x => x.1.isSome) && decide (([Expr.Constant (.str (Str.ofString "'")) k2 p2, .Constant (.str (Str.ofString zs)) k3 p3].length + ([] : List Keyword).length + if ([] : List Keyword).isEmpty = true then 0 else 1) < 30)) = true := by with_unfolding_all rfl)
  (h3 : (ap.endLine == pos.line) = true := by with_unfolding_all rfl) :
  EW c (.BinOp (.Constant (.str (Str.ofString "'")) k1 p1) .Add (.Call (.Attribute (.Name x np) (Str.ofString "replace") ap) [.Constant (.str (Str.ofString "'")) k2 p2, .Constant (.str (Str.ofString zs)) k3 p3] [] pos) p5) L H Q := fun R s S0 => by
 refine wpAny_BinOp (Calls.Constant_str ?_)
 have S1 := S0.toks (tk := s.toks + 1)
 obtain ⟨m, F, hm⟩ := S1.fr
 obtain ⟨v, g1, t, rfl⟩ := hm x _ hx
 refine wpAny_Call_method h1 h2 h3 PySem.F.plainAttrs_str PySem.F.slot_str_replace PySem.F.type_str_replace ?_
 refine wpAny_Name (wpAny_loadName_local S1.ok.kind (by unfold Env.kindOf; rw [S1.ok.names]; exact hk) F.ns g1 ?_) hd
 refine ⟨rfl, fun a e => (nomatch e), callWith_builtin (by rfl) ?_⟩
 refine evalArgs_plain ?_
 refine spliced_more (Calls.Constant_str (spliced_more (Calls.Constant_str (spliced_none ?_))))
 refine SC.replaceW (by simp) (by simp) (by simp) ?_ ?_ ?_ fun t' k => ?_
 ·have := S_beq [39] z
  rw [← ez] at this
  rw [← ez] at h39
  exact this.trans (beq_eq_false_iff_ne.mpr h39)
 ·rw [S_length]; omega
 ·show (Str.ofString zs).length ≤ _
  rw [S_lit, S_length, ez]; omega
 ·have e : Txt.replace (S w) (Str.ofString "'") (Str.ofString zs) = S (repW z w) := by
   rw [← repW_eq, ← ez]; rfl
  rw [e]
  exact h _ _ ⟨_, rfl⟩ ⟨_, rfl⟩ R _ (S1.toks (tk := k))
theorem looks_822 {M : Model} {P : Params} {h : Heap} (X : (Kf P).In h) : Looks M h (keeperOf (.ref 822)) .machine := by
 unfold keeperOf
 exact (Looks.ld (X _ _ (k822 P))).andThen .now
theorem EW.callRe {c : Cx} {L : AL} {H : AH} {Q : AV → AH → Prop} {x : Str} {np pos : Pos} {e : Expr}
  (h : EW c (.Name x np) L H fun f H1 => f = .ref 822 ∧ EW c e L H1 fun a H2 => CallW c (.ref 822) [a] L H2 Q)
  (h2 : ((backTo pos (starEach [e] c.d.env)).any fun x => x.1) = false := by with_unfolding_all rfl)
  (h3 : backTo pos (starEach [e] c.d.env) = (false, (backTo pos [(false, eval e c.d.env)]).head!.2) :: backTo pos (starEach [] c.d.env) := by with_unfolding_all rfl)
  (h4 : starEach [e] c.d.env = (false, eval e c.d.env) :: starEach [] c.d.env := by with_unfolding_all rfl) : EW c (.Call (.Name x np) [e] [] pos) L H Q := fun R s S =>
 wpAny_Call_ofName (h.run S fun f af H1 s1 hf S1 zz => by
  obtain ⟨e1, q⟩ := zz
  subst e1; cases hf
  refine callWith_of (P := (KP c).In) (by show (_ || false) = false; rw [Bool.or_false]; exact h2) (fun h X => ⟨_, .inr (.inl rfl), looks_822 X⟩) ?_
  rw [h3]
  refine evalArgs_plain ?_
  rw [← h3]
  exact spliced_more (q.run S1 fun v a H2 s2 hv S2 q2 => spliced_none ⟨S2.kin, q2 _ (.cons hv .nil) R _ S2⟩) h4)
theorem TrW.strW {c : Cx} {L : AL} {H : AH} {w : W} {P : Bool → AH → Prop} (hz : w.length ≤ 1000000) (h : P (!w.isEmpty) H) : TrW c (.str (S w)) L H P :=
 TrW.str (by rw [S_length]; exact Nat.le_trans hz (by decide)) (by
  have e : (((S w).length : Int) != 0) = !w.isEmpty := by
   rw [S_length]
   cases w with
   | nil => rfl
   | cons a l => exact bne_iff_ne.mpr (by rw [List.length_cons]; omega)
  rw [e]; exact h)
theorem f829 (P) : (Kf P).lookup 829 = some (fnO (topS 32) (o "quote") .none (.str (o "cpy313.shlex") 1198) (.ref 828)) := rfl
theorem g829 (P) : codeIn (Kf P) (.ref 828) (o "quote") = true := rfl
section
variable {c : Cx} {L : AL} {H : AH}
theorem c829 {w : W} (hroom : 1 ≤ c.d.room) (hw : w.length ≤ 1000) : CodeW c (.ref 829) [.str (S w)] [] [] L H (fun a H' => a = .str (S (quoteW w)) ∧ H' = H) := by
 generalize hQ : (fun (a : AV) (H' : AH) => a = .str (S (quoteW w)) ∧ H' = H) = Q
 refine CodeW.enterP (ns := [o "s"]) (bas := [.str (S w)]) (f829 _) (g829 _) (by first | exact room_1 hroom tt | omega) (fun vs ws hv hw => ?_) (by rfl) (by rfl) (by rfl) (by rfl) (by rfl) fun d hrm _ Pf hPf => ?_
 ·exact bind1 hv fun _ _ _ => BindsTo.of_eq (by rfl)
 conv in fBody _ => whnf
 repeat walk_at "f"
 refine CB.val ?_
 repeat walk_at "f"
 refine TrW.strW (by omega) ?_
 cases w with
 | nil =>
  have hT : (!!([] : W).isEmpty) = true := rfl
  repeat walk_at "f"
  rw [if_pos hT]
  repeat walk_at "f"
  rw [← hQ]
  exact ⟨rfl, rfl⟩
 | cons a w =>
 generalize hv : a :: w = v at hw hQ ⊢
 have hne : v ≠ [] := by rw [← hv]; exact fun h => nomatch h
 have hpos : 0 < v.length := by rw [← hv]; exact Nat.succ_pos _
 have he : (!v.isEmpty) = true := by rw [← hv]; rfl
 repeat walk_at "f"
 rw [he, show (!true) = false from rfl, if_neg (by decide)]
 repeat walk_at "f"
 refine EW.callRe ?_
 repeat walk_at "f"
 refine ⟨rfl, ?_⟩
 repeat walk_at "f"
 refine CallW.re (by omega) hpos fun a hb ha => ?_
 repeat walk_at "f"
 refine CmpW.isN hb ?_
 rw [ha]
 cases hs : v.all safeC with
 | true =>
  first | with_reducible refine if_t rfl ?_ | with_reducible refine IfK.t rfl ?_ | with_reducible refine IteK.t rfl ?_ | rw [if_pos rfl]
  repeat walk_at "f"
  rw [← hQ]
  exact ⟨by unfold quoteW; rw [if_neg hne, if_pos hs] <;> rfl, rfl⟩
 | false =>
  first | with_reducible refine if_f (by decide) ?_ | with_reducible refine IfK.f (by decide) ?_ | with_reducible refine IteK.f (by decide) ?_ | rw [if_neg (by decide)]
  refine SS.nil ?_
  refine SS.cons (ST.ret (EW.binop ?_))
  have hl := repW_len (lit "'\"'\"'") v (by decide)
  refine EW.quoteRep (z := lit "'\"'\"'") (by with_unfolding_all rfl) (by with_unfolding_all rfl) hw rfl (by decide) (by decide) ?_
  have e1 : (lit "'").length = 1 := by decide
  refine OpW.addSS (by omega) ?_
  repeat walk_at "f"
  refine OpW.addSS (by rw [List.length_append]; omega) ?_
  repeat walk_at "f"
  rw [← hQ]
  exact ⟨by unfold quoteW; rw [if_neg hne, if_neg (by rw [hs]; decide)] <;> rfl, rfl⟩
end
end
end
section
open PySem PySem.W PySem.Calls PyProof.Rows PySem.SeqAt
noncomputable section
noncomputable def decV : Value → AV
 | .none => .none
 | .bool b => .bool b
 | .int i _ => .int i
 | .str x _ => .str x
 | .ref a => .ref a
 | .builtin i => .blt i
 | .type n => .typ n
 | _ => .none
theorem decV_of {a : AV} {v : Value} (h : VRel a v) : decV v = a := by
 cases a with
 | int i => obtain ⟨t, rfl⟩ := h; rfl
 | str i => obtain ⟨t, rfl⟩ := h; rfl
 | _ => cases h; rfl
theorem decV_any {e : AV → Bool} {xs : List AV} {vs : List Value} (h : VRels xs vs) : (vs.any fun v => e (decV v)) = xs.any e := by
 induction h with
 | nil => rfl
 | cons h t ih => rw [List.any_cons, List.any_cons, decV_of h, ih]
theorem VRels.mem {xs : List AV} {vs : List Value} (h : VRels xs vs) {v : Value} (hv : v ∈ vs) : ∃ a, a ∈ xs ∧ VRel a v := by
 induction h with
 | nil => cases hv
 | cons hh _ ih =>
  rcases List.mem_cons.mp hv with rfl | hv
  ·exact ⟨_, .head _, hh⟩
  ·obtain ⟨a, h1, h2⟩ := ih hv; exact ⟨a, .tail _ h1, h2⟩
theorem CmpW.inTup {c : Cx} {L : AL} {H : AH} {P : Bool → AH → Prop} {n : Nat} (hn : n < 100) {x : AV} {l : Addr} {xs : List AV} (e : AV → Bool) (hl : H l = some (.tup xs)) (he : ∀ y, y ∈ xs → EqW n H y x (e y)) (h : P (xs.any e) H) : CmpW c .In x (.ref l) L H P := by
 rintro vx _ hx rfl R s S
 obtain ⟨vs, hv, hL⟩ := isT S hl
 refine in_tupleAt (fun v => e (decV v)) hL (fun y hy => ?_) ?_
 ·obtain ⟨a, ha, hr⟩ := hv.mem (by simpa using hy)
  rw [decV_of hr]
  exact he a ha c L R s _ _ _ (by show c.d.A.units + 1 + n < 9900; rw [Nat.add_assoc]; exact units_lt S.ok.units (Nat.lt_of_lt_of_le (Nat.add_lt_add_left hn 1) (by decide))) S hr hx
 ·rw [List.any_toArray, decV_any hv]
  exact ⟨.bool _, H, rfl, S, _, rfl, h⟩
noncomputable def textOf (k : Int) (w : W) : W := if k = 0 ∧ (w = [] ∨ w = lit "*") then w else quoteW w ++ (if k = 1 ∨ k = 5 then lit " #'" else [])
noncomputable def rowPut (r : Row) (k : Int) (n : Nat) (v : Int) : Row :=
 if k < 2 then { r with agents := r.agents ++ [(textOf k (wordOf v), wordOf v)] }
 else if k = 2 then { r with delays := r.delays ++ [v.fmod 1000] }
 else if k = 3 then { r with rates := r.rates ++ [(v.fmod 10, (v.fdiv 10).fmod 100)] }
 else if k < 7 ∨ 5 < n then { r with rules := r.rules ++ [(0, textOf k (wordOf v), wordOf v)] }
 else { r with rules := r.rules ++ [(n, [], [])] }
noncomputable def rowNew (k : Int) (n : Nat) (v : Int) : List Row := if k < 7 ∨ 5 < n then [] else [⟨if k < 9 then [(textOf k (wordOf v), wordOf v)] else [], [], [], []⟩]
noncomputable def stepI (n : Int) (rows : List Row) : Nat := ((n.fdiv 10).fmod rows.length).toNat
noncomputable def stepV (n : Int) (rows : List Row) : Int := (n.fdiv 10).fdiv rows.length
noncomputable def rowStep (rows : List Row) (n : Int) : List Row := match rows[stepI n rows]? with
 | none => rows
 | some r => rows.set (stepI n rows) (rowPut r (n.fmod 10) rows.length (stepV n rows)) ++ rowNew (n.fmod 10) rows.length (stepV n rows)
noncomputable def row0 : Row := ⟨[(lit "fig", lit "fig")], [], [], []⟩
noncomputable def rowsOf (ns : List Int) : List Row := ns.foldl rowStep [row0, row0]
structure RowB (i : Nat) (r : Row) : Prop where
 agents : r.agents.length ≤ i + 1
 delays : r.delays.length ≤ i
 rates : r.rates.length ≤ i
 rules : r.rules.length ≤ i
structure RowsB (i : Nat) (rows : List Row) : Prop where
 low : 2 ≤ rows.length
 high : rows.length ≤ 6
 each : ∀ r ∈ rows, RowB i r
theorem RowB.up {i j : Nat} {r : Row} (h : RowB i r) (hij : i ≤ j) : RowB j r := ⟨by have := h.agents; omega, by have := h.delays; omega, by have := h.rates; omega, by have := h.rules; omega⟩
theorem rowPut_b {i : Nat} {r : Row} (h : RowB i r) (k : Int) (n : Nat) (v : Int) : RowB (i + 1) (rowPut r k n v) := by
 have := h.agents
 have := h.delays
 have := h.rates
 have := h.rules
 unfold rowPut
 (repeat' split) <;> constructor <;> simp <;> omega
theorem stepI_lt {n : Int} {rows : List Row} (h : 2 ≤ rows.length) : stepI n rows < rows.length := by
 have := fmod_range (n.fdiv 10) (n := (rows.length : Int)) (Int.ofNat_lt.mpr (Nat.lt_of_lt_of_le (by decide) h))
 unfold stepI
 omega
theorem rowStep_b {i : Nat} {rows : List Row} (h : RowsB i rows) (n : Int) : RowsB (i + 1) (rowStep rows n) := by
 obtain ⟨r, hr⟩ : ∃ r, rows[stepI n rows]? = some r := ⟨_, List.getElem?_eq_getElem (stepI_lt h.low)⟩
 have hlen : (rowNew (n.fmod 10) rows.length (stepV n rows)).length ≤ 6 - rows.length := by
  unfold rowNew
  split
  ·exact Nat.zero_le _
  ·rename_i q
   show 1 ≤ _
   omega
 unfold rowStep
 rw [hr]
 have h1 := h.low
 have h2 := h.high
 refine ⟨?_, ?_, fun r' hr' => ?_⟩
 ·dsimp only
  rw [List.length_append, List.length_set]; omega
 ·dsimp only
  rw [List.length_append, List.length_set]; omega
 ·rcases List.mem_append.mp hr' with hr' | hr'
  ·rcases List.mem_or_eq_of_mem_set hr' with hr' | rfl
   ·exact (h.each _ hr').up (Nat.le_succ _)
   ·exact rowPut_b (h.each _ (List.mem_of_getElem? hr)) _ _ _
  ·unfold rowNew at hr'
   split at hr'
   ·cases hr'
   ·rw [List.mem_singleton.mp hr']
    refine ⟨?_, Nat.zero_le _, Nat.zero_le _, Nat.zero_le _⟩
    show (if _ then _ else _ : List (W × W)).length ≤ _
    split <;> simp
theorem rows_b : ∀ (ns : List Int) {i : Nat} {rows : List Row}, RowsB i rows → RowsB (i + ns.length) (ns.foldl rowStep rows)
 | [], i, rows, h => h
 | n :: ns, i, rows, h => by
  have := rows_b ns (rowStep_b h n)
  rw [List.length_cons, show i + (ns.length + 1) = i + 1 + ns.length by omega]
  exact this
theorem rows0_b : RowsB 0 [row0, row0] := ⟨by decide, by decide, fun r hr => by
 have : r = row0 := by simpa using hr
 rw [this]
 exact ⟨by decide, by decide, by decide, by decide⟩⟩
theorem rowsOf_snoc (ns : List Int) (n : Int) : rowsOf (ns ++ [n]) = rowStep (rowsOf ns) n := by unfold rowsOf; rw [List.foldl_append]; rfl
theorem wordOf_len (v : Int) : (wordOf v).length ≤ 4 := by
 unfold wordOf
 rw [List.length_append]
 have := wAcc_len v 3
 split <;> simp <;> omega
end
end
section
noncomputable section
inductive Alcs (H0 : AH) : List Addr → AH → Prop
 | nil : Alcs H0 [] H0
 | cons {l : List Addr} {H : AH} {a : Addr} {o : AObj} (t : Alcs H0 l H) (h : H a = none) : Alcs H0 (a :: l) (hset H a o)
theorem Alcs.facts {H0 H : AH} {l : List Addr} (h : Alcs H0 l H) : l.Nodup ∧ (∀ a ∈ l, H0 a = none ∧ H a ≠ none) ∧ HLe H0 H := by
 induction h with
 | nil => exact ⟨.nil, (fun _ h => nomatch h), HLe.rfl⟩
 | @cons l H a o t ha ih =>
  obtain ⟨i1, i2, i3⟩ := ih
  refine ⟨List.nodup_cons.mpr ⟨fun hm => (i2 a hm).2 ha, i1⟩, fun b hb => ?_, HLe.put ha i3⟩
  rcases List.mem_cons.mp hb with rfl | hb
  ·exact ⟨i3.back ha, by rw [hset_same]; exact fun h => nomatch h⟩
  ·have : b ≠ a := fun q => (i2 b hb).2 (q ▸ ha)
   exact ⟨(i2 b hb).1, by rw [hset_ne this]; exact (i2 b hb).2⟩
structure RF (H0 : AH) (lays : List Lay) (rows : List Row) (H : AH) : Prop where
 all : All2 (RowLay H) lays rows
 nd : (lays.flatMap Lay.all).Nodup
 new : ∀ a ∈ lays.flatMap Lay.all, H0 a = none
theorem RF.mono {H0 H H' : AH} {lays : List Lay} {rows : List Row} (h : RF H0 lays rows H) (k : HLe H H') : RF H0 lays rows H' := ⟨h.all.mono fun _ _ => RowLay.mono k, h.nd, h.new⟩
theorem RowLay.some {H : AH} {l : Lay} {r : Row} (h : RowLay H l r) : ∀ a ∈ l.all, H a ≠ none := by
 obtain ⟨la, lt, lu, g, h1, h2, h3, h4, h5, h6, h7⟩ := h
 intro a ha
 simp only [Lay.all, List.mem_cons, List.not_mem_nil, or_false] at ha
 rcases ha with rfl | rfl | rfl | rfl | rfl <;> simp [*]
theorem All2.memL {α β : Type} {R : α → β → Prop} {as : List α} {bs : List β} (h : All2 R as bs) {a : α} (ha : a ∈ as) : ∃ b, b ∈ bs ∧ R a b := by
 obtain ⟨i, hi⟩ := List.mem_iff_getElem?.mp ha
 obtain ⟨b, hb, r⟩ := h.getL hi
 exact ⟨b, List.mem_of_getElem? hb, r⟩
theorem RF.some {H0 H : AH} {lays : List Lay} {rows : List Row} (h : RF H0 lays rows H) : ∀ a ∈ lays.flatMap Lay.all, H a ≠ none := fun a ha => by
 obtain ⟨l, hl, hal⟩ := List.mem_flatMap.mp ha
 obtain ⟨r, _, hr⟩ := h.all.memL hl
 exact hr.some a hal
theorem Alcs.lay {H0 H : AH} {x u t d a : Addr} {rest : List Addr} (h : Alcs H0 (x :: u :: t :: d :: a :: rest) H) : (Lay.mk x a d t u).all.Nodup ∧ ∀ b ∈ (Lay.mk x a d t u).all, H0 b = none := by
 obtain ⟨h1, h2, _⟩ := h.facts
 simp only [Lay.all, List.nodup_cons, List.mem_cons, List.not_mem_nil, or_false, not_or, not_false_eq_true, true_and] at h1 ⊢
 obtain ⟨⟨a1, a2, a3, a4, _⟩, ⟨b1, b2, b3, _⟩, ⟨c1, c2, _⟩, ⟨d1, _⟩, _⟩ := h1
 refine ⟨⟨⟨a4, a3, a2, a1⟩, ⟨Ne.symm d1, Ne.symm c2, Ne.symm b3⟩, ⟨Ne.symm c1, Ne.symm b2⟩, Ne.symm b1, List.nodup_nil⟩, fun b hb => ?_⟩
 refine (h2 b ?_).1
 rcases hb with rfl | rfl | rfl | rfl | rfl <;> simp
theorem RF.add {H0 H H1 : AH} {lays : List Lay} {rows : List Row} {r : Row} {x u t d a : Addr} {rest : List Addr} (h : RF H0 lays rows H) (k : HLe H0 H) (al : Alcs H (x :: u :: t :: d :: a :: rest) H1) (hr : RowLay H1 ⟨x, a, d, t, u⟩ r) :
  RF H0 (lays ++ [⟨x, a, d, t, u⟩]) (rows ++ [r]) H1 := by
 obtain ⟨h1, h2⟩ := al.lay
 obtain ⟨_, _, h3⟩ := al.facts
 refine ⟨(h.mono h3).all.append (.one hr), ?_, fun b hb => ?_⟩
 ·rw [List.flatMap_append, List.nodup_append]
  refine ⟨h.nd, by simpa using h1, fun p hp q hq e => ?_⟩
  subst e
  simp only [List.flatMap_cons, List.flatMap_nil, List.append_nil] at hq
  exact h.some p hp (h2 p hq)
 ·rw [List.flatMap_append] at hb
  rcases List.mem_append.mp hb with hb | hb
  ·exact h.new b hb
  ·simp only [List.flatMap_cons, List.flatMap_nil, List.append_nil] at hb
   exact k.back (h2 b hb)
theorem RF.apart {H0 H : AH} {lays : List Lay} {rows : List Row} (h : RF H0 lays rows H) {i j : Nat} {l l' : Lay} (hi : lays[i]? = Option.some l) (hj : lays[j]? = Option.some l') (hne : j ≠ i) {b : Addr} (hb : b ∈ l.all) : b ∉ l'.all := by
 have hp := (List.pairwise_flatMap.mp h.nd).2
 rw [List.pairwise_iff_getElem] at hp
 obtain ⟨li, ei⟩ := List.getElem?_eq_some_iff.mp hi
 obtain ⟨lj, ej⟩ := List.getElem?_eq_some_iff.mp hj
 intro hb'
 rcases Nat.lt_or_gt_of_ne hne with q | q
 ·exact hp j i lj li q b (by rw [ej]; exact hb') b (by rw [ei]; exact hb) rfl
 ·exact hp i j li lj q b (by rw [ei]; exact hb) b (by rw [ej]; exact hb') rfl
theorem RF.layNd {H0 H : AH} {lays : List Lay} {rows : List Row} (h : RF H0 lays rows H) {l : Lay} (hl : l ∈ lays) : l.all.Nodup := (List.pairwise_flatMap.mp h.nd).1 l hl
theorem RF.setAt {H0 H : AH} {lays : List Lay} {rows : List Row} {i : Nat} {l : Lay} {r' : Row} {b : Addr} {xs ys : List AV} (h : RF H0 lays rows H) (hi : lays[i]? = Option.some l) (hb : b ∈ l.all) (hx : H b = Option.some (.list xs)) (hr : RowLay (hset H b (.list ys)) l r') :
  RF H0 lays (rows.set i r') (hset H b (.list ys)) :=
 ⟨h.all.setAt hi (fun j l' r hj hl' hr' => hr'.other hx (h.apart hi hl' hj hb)) hr, h.nd, h.new⟩
theorem RF.otherPut {H0 H : AH} {lays : List Lay} {rows : List Row} {b : Addr} {xs ys : List AV} (h : RF H0 lays rows H) (hb : b ∉ lays.flatMap Lay.all) (hx : H b = Option.some (.list xs)) : RF H0 lays rows (hset H b (.list ys)) := by
 refine ⟨?_, h.nd, h.new⟩
 have : ∀ l ∈ lays, b ∉ l.all := fun l hl hm => hb (List.mem_flatMap.mpr ⟨l, hl, hm⟩)
 have key : ∀ {ls : List Lay} {rs : List Row}, (∀ l ∈ ls, b ∉ l.all) → All2 (RowLay H) ls rs → All2 (RowLay (hset H b (.list ys))) ls rs := by
  intro ls rs hn ha
  induction ha with
  | nil => exact .nil
  | cons hh _ ih => exact .cons (hh.other hx (hn _ (.head _))) (ih fun l hl => hn l (.tail _ hl))
 exact key this h.all
structure Laid (H0 : AH) (rx : Addr) (lays : List Lay) (rows : List Row) (H : AH) : Prop where
 le : HLe H0 H
 get : H rx = some (.list (lays.map fun l => .ref l.x))
 rf : RF H0 lays rows H
 new : H0 rx = none
 out : rx ∉ lays.flatMap Lay.all
theorem Laid.mono {H0 H H' : AH} {rx : Addr} {lays : List Lay} {rows : List Row} (h : Laid H0 rx lays rows H) (k : HLe H H') : Laid H0 rx lays rows H' := ⟨h.le.trans k, k _ _ h.get, h.rf.mono k, h.new, h.out⟩
theorem Laid.setAt {H0 H : AH} {rx : Addr} {lays : List Lay} {rows : List Row} {i : Nat} {l : Lay} {r' : Row} {b : Addr} {xs ys : List AV} (h : Laid H0 rx lays rows H) (hi : lays[i]? = Option.some l) (hb : b ∈ l.all) (hx : H b = Option.some (.list xs)) (hr : RowLay (hset H b (.list ys)) l r') :
  Laid H0 rx lays (rows.set i r') (hset H b (.list ys)) := by
 have hm : b ∈ lays.flatMap Lay.all := List.mem_flatMap.mpr ⟨l, List.mem_of_getElem? hi, hb⟩
 have hne : rx ≠ b := fun q => h.out (q ▸ hm)
 exact ⟨HLe.mut (h.rf.new b hm) h.le, (hset_ne hne).trans h.get, h.rf.setAt hi hb hx hr, h.new, h.out⟩
theorem Laid.add {H0 H H1 : AH} {rx : Addr} {lays : List Lay} {rows : List Row} {r : Row} {x u t d a : Addr} {rest : List Addr} (h : Laid H0 rx lays rows H) (al : Alcs H (x :: u :: t :: d :: a :: rest) H1) (hr : RowLay H1 ⟨x, a, d, t, u⟩ r) :
  Laid H0 rx (lays ++ [⟨x, a, d, t, u⟩]) (rows ++ [r]) (hset H1 rx (.list ((lays.map fun l => .ref l.x) ++ [.ref x]))) := by
 obtain ⟨h1, h2⟩ := al.lay
 obtain ⟨_, _, h3⟩ := al.facts
 have hout : rx ∉ (lays ++ [Lay.mk x a d t u]).flatMap Lay.all := by
  rw [List.flatMap_append]
  intro hm
  rcases List.mem_append.mp hm with hm | hm
  ·exact h.out hm
  ·simp only [List.flatMap_cons, List.flatMap_nil, List.append_nil] at hm
   have := h2 rx hm
   rw [h.get] at this; cases this
 refine ⟨HLe.mut h.new (h.le.trans h3), by rw [hset_same, List.map_append]; rfl, (h.rf.add h.le al hr).otherPut hout (h3 _ _ h.get), h.new, hout⟩
theorem Laid.rows {H0 H : AH} {rx : Addr} {lays : List Lay} {rows : List Row} (h : Laid H0 rx lays rows H) : RowsAt H (.ref rx) rows := by
 refine ⟨rx, _, rfl, h.get, ?_⟩
 have key : ∀ {ls : List Lay} {rs : List Row}, All2 (RowLay H) ls rs → All2 (RowAt H) (ls.map fun l => .ref l.x) rs := by
  intro ls rs ha
  induction ha with
  | nil => exact .nil
  | cons hh _ ih => exact .cons hh.row ih
 exact key h.rf.all
end
end
section
end
section
set_option maxHeartbeats 4000000
noncomputable section
theorem f843 (P) : (Kf P).lookup 843 = some (fnO (topS 35) (o "_law_rows") .none (.str (o "law_oy0424_01") 1358) (.ref 842)) := rfl
theorem g843 (P) : codeIn (Kf P) (.ref 842) (o "_law_rows") = true := rfl
theorem pairAt_mk {H : AH} {t : Addr} {a b : W} (h : H t = some (.tup [.str (S a), .str (S b)])) : PairAt H (.ref t) (a, b) := ⟨t, rfl, h⟩
theorem new_lay {H : AH} {x a d t u : Addr} {la : List AV} {ps : List (W × W)} (h : H x = some (.list [.ref a, .ref d, .ref t, .ref u])) (ha : H a = some (.list la)) (hp : All2 (PairAt H) la ps) (hd : H d = some (.list [])) (ht : H t = some (.list [])) (hu : H u = some (.list [])) : RowLay H ⟨x, a, d, t, u⟩ ⟨ps, [], [], []⟩ :=
 ⟨la, [], [], h, ha, hp, hd, ht, .nil, hu, .nil⟩
theorem row0_lay {H : AH} {x a d t u p : Addr} (h : H x = some (.list [.ref a, .ref d, .ref t, .ref u])) (ha : H a = some (.list [.ref p])) (hp : H p = some (.tup [.str (S (lit "fig")), .str (S (lit "fig"))])) (hd : H d = some (.list [])) (ht : H t = some (.list [])) (hu : H u = some (.list [])) : RowLay H ⟨x, a, d, t, u⟩ row0 :=
 new_lay h ha (.one (pairAt_mk hp)) hd ht hu
noncomputable def isI (k : Int) : AV → Bool
 | .int j => j == k
 | _ => false
noncomputable def isS (w : W) : AV → Bool
 | .str x => x == S w
 | _ => false
theorem rp1 {r : Row} {k v : Int} {n : Nat} {w : W} (hW : wordOf v = w) (h : k < 2) : rowPut r k n v = { r with agents := r.agents ++ [(textOf k w, w)] } := by subst hW; exact if_pos h
theorem rp2 {r : Row} {k v : Int} {n : Nat} (h : ¬ k < 2) (h2 : k = 2) : rowPut r k n v = { r with delays := r.delays ++ [v.fmod 1000] } := by unfold rowPut; rw [if_neg h, if_pos h2]
theorem rp3 {r : Row} {k v : Int} {n : Nat} (h : ¬ k < 2) (h2 : ¬ k = 2) (h3 : k = 3) : rowPut r k n v = { r with rates := r.rates ++ [(v.fmod 10, (v.fdiv 10).fmod 100)] } := by unfold rowPut; rw [if_neg h, if_neg h2, if_pos h3]
theorem rp4 {r : Row} {k v : Int} {n : Nat} {w : W} (hW : wordOf v = w) (h : ¬ k < 2) (h2 : ¬ k = 2) (h3 : ¬ k = 3) (h4 : k < 7 ∨ 5 < n) : rowPut r k n v = { r with rules := r.rules ++ [(0, textOf k w, w)] } := by subst hW; unfold rowPut; rw [if_neg h, if_neg h2, if_neg h3, if_pos h4]
theorem rp5 {r : Row} {k v : Int} {n : Nat} (h : ¬ k < 2) (h2 : ¬ k = 2) (h3 : ¬ k = 3) (h4 : ¬ (k < 7 ∨ 5 < n)) : rowPut r k n v = { r with rules := r.rules ++ [(n, lit "", lit "")] } := by unfold rowPut; rw [if_neg h, if_neg h2, if_neg h3, if_neg h4]; rfl
theorem rn0 {k v : Int} {n : Nat} (h : k < 7 ∨ 5 < n) : rowNew k n v = [] := if_pos h
theorem rn1 {k v : Int} {n : Nat} {w : W} (hW : wordOf v = w) (h : ¬ (k < 7 ∨ 5 < n)) (h9 : k < 9) : rowNew k n v = [⟨[(textOf k w, w)], [], [], []⟩] := by subst hW; unfold rowNew; rw [if_neg h, if_pos h9]
theorem rn2 {k v : Int} {n : Nat} (h : ¬ (k < 7 ∨ 5 < n)) (h9 : ¬ k < 9) : rowNew k n v = [⟨[], [], [], []⟩] := by unfold rowNew; rw [if_neg h, if_neg h9]
theorem k7a {k : Int} (h : k < 2) : k < 7 := Int.lt_trans h (by decide)
theorem k7b {k : Int} (h : k = 2) : k < 7 := by rw [h]; decide
theorem k7c {k : Int} (h : k = 3) : k < 7 := by rw [h]; decide
theorem Lay.memA (l : Lay) : l.a ∈ l.all := .tail _ (.head _)
theorem Lay.memD (l : Lay) : l.d ∈ l.all := .tail _ (.tail _ (.head _))
theorem Lay.memT (l : Lay) : l.t ∈ l.all := .tail _ (.tail _ (.tail _ (.head _)))
theorem Lay.memU (l : Lay) : l.u ∈ l.all := .tail _ (.tail _ (.tail _ (.tail _ (.head _))))
theorem any15_t {k : Int} (h : k = 1 ∨ k = 5) : ([AV.int 1, .int 5].any (isI k)) = true := by rcases h with rfl | rfl <;> rfl
theorem any15_f {k : Int} (h : ¬ (k = 1 ∨ k = 5)) : ([AV.int 1, .int 5].any (isI k)) = false := by
 show (1 == k || (5 == k || false)) = false
 rw [beq_eq_false_iff_ne.mpr fun q => h (.inl q.symm), beq_eq_false_iff_ne.mpr fun q => h (.inr q.symm)]; rfl
theorem figl {k : Int} : (if k = 1 ∨ k = 5 then lit " #'" else []).length ≤ 3 := by split <;> decide
inductive S843 (H : AH) (na : Addr) (L1 : AL) (H1 : AH) : Prop
 | mk' (rx : Addr) (lays : List Lay) (e1 : L1 (o "rows") = some (.ref rx)) (e2 : L1 (o "numbers") = some (.ref na)) (la : Laid H rx lays [row0, row0] H1)
inductive K843 (H : AH) (rx : Addr) (rows : List Row) (L2 : AL) (H2 : AH) : Prop
 | mk' (lays : List Lay) (e : L2 (o "rows") = some (.ref rx)) (la : Laid H rx lays rows H2)
inductive T843 (k v : Int) (w : W) (x rx : Addr) (H2 : AH) (L6 : AL) (H6 : AH) : Prop
 | mk' (e1 : L6 (o "kind") = some (.int k)) (e2 : L6 (o "row") = some (.ref x)) (e3 : L6 (o "v") = some (.int v)) (e4 : L6 (o "word") = some (.str (S w))) (e5 : L6 (o "text") = some (.str (S (textOf k w)))) (e6 : L6 (o "rows") = some (.ref rx)) (le : HLe H2 H6)
section
variable {c : Cx} {L : AL} {H : AH}
theorem c843 {na : Addr} {ns : List Int} (hroom : 3 ≤ c.d.room) (hn : H na = some (.list (ns.map .int))) (hlen : ns.length ≤ 1000) : CodeW c (.ref 843) [.ref na] [] [] L H (fun a H' => HLe H H' ∧ RowsAt H' a (rowsOf ns)) := by
 generalize hQ : (fun (a : AV) (H' : AH) => HLe H H' ∧ RowsAt H' a (rowsOf ns)) = Q
 refine CodeW.enterP (ns := [o "numbers"]) (bas := [.ref na]) (f843 _) (g843 _) (by first | exact room_1 hroom tt | omega) (fun vs ws hv hw => ?_) (by rfl) (by rfl) (by rfl) (by rfl) (by rfl) fun d hrm _ Pf hPf => ?_
 ·exact bind1 hv fun _ _ _ => BindsTo.of_eq (by rfl)
 conv in fBody _ => whnf
 generalize hL0 : bindA [o "numbers"] [.ref na] = L0
 have eL0 : L0 (o "numbers") = some (.ref na) := by rw [← hL0]; rfl
 clear hL0
 have al0 : Alcs H [] H := .nil
 with_reducible refine SS.seq (S843 H na) (fun _ hPs => ?_) ?_
 ·repeat walk_at "f"
  refine ⟨Nat.le_of_ble_eq_true tt, fun t1 g1 => ?_⟩
  repeat walk_at "f"
  refine ⟨Nat.le_of_ble_eq_true tt, fun a1 g2 => ?_⟩
  repeat walk_at "f"
  refine ⟨Nat.le_of_ble_eq_true tt, fun d1 g3 => ?_⟩
  repeat walk_at "f"
  refine ⟨Nat.le_of_ble_eq_true tt, fun r1 g4 => ?_⟩
  repeat walk_at "f"
  refine ⟨Nat.le_of_ble_eq_true tt, fun u1 g5 => ?_⟩
  repeat walk_at "f"
  refine ⟨Nat.le_of_ble_eq_true tt, fun x1 g6 => ?_⟩
  have al1 := (((((al0.cons (o := .tup [.str (S (lit "fig")), .str (S (lit "fig"))]) g1).cons (o := .list [.ref t1]) g2).cons (o := .list []) g3).cons (o := .list []) g4).cons (o := .list []) g5).cons (o := .list [.ref a1, .ref d1, .ref r1, .ref u1]) g6
  have rl1 : RowLay _ ⟨x1, a1, d1, r1, u1⟩ row0 := row0_lay (hset_same _ _ _) (by walk_at "hk") (by walk_at "hk") (by walk_at "hk") (by walk_at "hk") (by walk_at "hk")
  have rf1 : RF H [⟨x1, a1, d1, r1, u1⟩] [row0] _ := RF.add (lays := []) (rows := []) (H := H) ⟨.nil, .nil, (fun _ h => nomatch h)⟩ HLe.rfl al1 rl1
  have le1 := al1.facts.2.2
  generalize hset (hset (hset (hset (hset (hset H t1 (.tup [.str (S (lit "fig")), .str (S (lit "fig"))])) a1 (.list [.ref t1])) d1 (.list [])) r1 (.list [])) u1 (.list [])) x1 (.list [.ref a1, .ref d1, .ref r1, .ref u1]) = H1 at rf1 le1
  clear rl1 al1 g1 g2 g3 g4 g5 g6
  repeat walk_at "f"
  refine ⟨Nat.le_of_ble_eq_true tt, fun t2 g1 => ?_⟩
  repeat walk_at "f"
  refine ⟨Nat.le_of_ble_eq_true tt, fun a2 g2 => ?_⟩
  repeat walk_at "f"
  refine ⟨Nat.le_of_ble_eq_true tt, fun d2 g3 => ?_⟩
  repeat walk_at "f"
  refine ⟨Nat.le_of_ble_eq_true tt, fun r2 g4 => ?_⟩
  repeat walk_at "f"
  refine ⟨Nat.le_of_ble_eq_true tt, fun u2 g5 => ?_⟩
  repeat walk_at "f"
  refine ⟨Nat.le_of_ble_eq_true tt, fun x2 g6 => ?_⟩
  have al1 : Alcs H1 [] H1 := .nil
  have al2 := (((((al1.cons (o := .tup [.str (S (lit "fig")), .str (S (lit "fig"))]) g1).cons (o := .list [.ref t2]) g2).cons (o := .list []) g3).cons (o := .list []) g4).cons (o := .list []) g5).cons (o := .list [.ref a2, .ref d2, .ref r2, .ref u2]) g6
  have rl2 : RowLay _ ⟨x2, a2, d2, r2, u2⟩ row0 := row0_lay (hset_same _ _ _) (by walk_at "hk") (by walk_at "hk") (by walk_at "hk") (by walk_at "hk") (by walk_at "hk")
  have rf2 : RF H [⟨x1, a1, d1, r1, u1⟩, ⟨x2, a2, d2, r2, u2⟩] [row0, row0] _ := rf1.add le1 al2 rl2
  have le2 := al2.facts.2.2
  generalize hset (hset (hset (hset (hset (hset H1 t2 (.tup [.str (S (lit "fig")), .str (S (lit "fig"))])) a2 (.list [.ref t2])) d2 (.list [])) r2 (.list [])) u2 (.list [])) x2 (.list [.ref a2, .ref d2, .ref r2, .ref u2]) = H2 at rf2 le2
  clear rl2 al2 g1 g2 g3 g4 g5 g6
  repeat walk_at "f"
  refine ⟨Nat.le_of_ble_eq_true tt, fun rx g => ?_⟩
  repeat walk_at "f"
  exact ⟨rfl, rx, [⟨x1, a1, d1, r1, u1⟩, ⟨x2, a2, d2, r2, u2⟩], by walk_at "lk", by walk_at "lk", HLe.put g (le1.trans le2), hset_same _ _ _, rf2.mono (HLe.new g), (le1.trans le2).back g, fun hm => rf2.some _ hm g⟩
 rintro L1 H1 ⟨rx, lays, e1, e2, la⟩
 clear al0 eL0 L0
 with_reducible refine SS.seq (K843 H rx (rowsOf (ns.take ns.length))) (fun _ hPs => ?_) ?_
 ·refine ST.forP ?_
  repeat walk_at "f"
  refine ⟨_, _, IterW.list (la.le _ _ hn), fun i => K843 H rx (rowsOf (ns.take i)), ?_, ?_, ?_, ?_⟩
  ·exact ⟨lays, e1, la⟩
  ·intro i L2 H2 h
   obtain ⟨_, _, h⟩ := h
   exact h.le _ _ hn
  ·intro i x L2 H2 hx Pk hPk h
   obtain ⟨lays, f1, la2⟩ := h
   have hi : i < ns.length := by have := (List.getElem?_eq_some_iff.mp hx).1; rwa [List.length_map] at this
   have hxn : x = .int ns[i] := by rw [List.getElem?_map, List.getElem?_eq_getElem hi] at hx; exact (Option.some.inj hx).symm
   subst hxn
   have erow : rowsOf (ns.take (i + 1)) = rowStep (rowsOf (ns.take i)) ns[i] := by rw [List.take_add_one, List.getElem?_eq_getElem hi]; exact rowsOf_snoc _ _
   have hB : RowsB (0 + (ns.take i).length) (rowsOf (ns.take i)) := rows_b _ rows0_b
   rw [List.length_take, Nat.min_eq_left (Nat.le_of_lt hi), Nat.zero_add] at hB
   have hInv' : ∀ {lays' L2 H2}, L2 (o "rows") = some (.ref rx) → Laid H rx lays' (rowStep (rowsOf (ns.take i)) ns[i]) H2 → K843 H rx (rowsOf (ns.take (i + 1))) L2 H2 := fun e h => ⟨_, e, by rw [erow]; exact h⟩
   clear hx erow e1 e2 la
   generalize rowsOf (ns.take i) = rows at la2 hB hInv'
   generalize ns[i] = n at hInv' ⊢
   have hll : lays.length = rows.length := la2.rf.all.length
   have hl2 : ((rows.length : Int)) ≠ 0 := Int.ofNat_ne_zero.mpr (Nat.ne_of_gt (Nat.lt_of_lt_of_le (by decide) hB.low))
   have hlr : rows.length ≤ 1000000 := Nat.le_trans hB.high (by decide)
   have bi : i + 1 ≤ 1000000 := by omega
   have hlg : ((rows.length : Int)).natAbs.log2 < 9000 := by
    exact Nat.lt_of_le_of_lt (Nat.le_trans (Nat.log2_le_self rows.length) hB.high) (by decide)
   have hsi := stepI_lt (n := n) hB.low
   obtain ⟨l, hl⟩ : ∃ l, lays[stepI n rows]? = some l := ⟨_, List.getElem?_eq_getElem (by rw [hll]; exact hsi)⟩
   obtain ⟨r, hr, hrl⟩ := la2.rf.all.getL hl
   have hfr := fmod_range (n.fdiv 10) (n := (rows.length : Int)) (Int.ofNat_lt.mpr (Nat.lt_of_lt_of_le (by decide) hB.low))
   have hrs : rowStep rows n = rows.set (stepI n rows) (rowPut r (n.fmod 10) rows.length (stepV n rows)) ++ rowNew (n.fmod 10) rows.length (stepV n rows) := by unfold rowStep; rw [hr]
   rw [hrs] at hInv'
   have hwl := wordOf_len (stepV n rows)
   have hql := quoteW_len (wordOf (stepV n rows))
   repeat walk_at "f"
   refine CallW.lenL la2.get (by rw [List.length_map, hll]; exact leD hlr tt) ?_
   rw [List.length_map, hll]
   refine OpW.modI hl2 ?_
   refine SbW.list (x := .ref l.x) la2.get hfr.1 (by show (lays.map _)[stepI n rows]? = _; rw [List.getElem?_map, hl]; rfl) (by rw [List.length_map, hll]; exact hlr) ?_
   repeat walk_at "f"
   refine CallW.lenL la2.get (by rw [List.length_map, hll]; exact leD hlr tt) ?_
   rw [List.length_map, hll]
   refine OpW.divI hl2 hlg ?_
   repeat walk_at "f"
   refine (CallKW.toCall (CodeW.toKW (c836 (by first | exact room_le hroom hrm tt | exact room_le hroom hr tt | (show 1 ≤ d.room; omega))))).mono fun v H3 h3 => ?_
   obtain ⟨k3, ev⟩ := h3
   subst ev
   have la3 := la2.mono k3
   repeat walk_at "f"
   refine (CallKW.toCall (CodeW.toKW (c829 (by first | exact room_le hroom hrm tt | exact room_le hroom hr tt | (show 1 ≤ d.room; omega)) (by show (wordOf (stepV n rows)).length ≤ 1000; omega)))).mono fun v H4 h4 => ?_
   obtain ⟨ev, e4⟩ := h4
   subst ev e4
   generalize hV : stepV n rows = v at hInv' hwl hql hrs
   generalize hK : n.fmod 10 = k at hInv' hrs ⊢
   have hv2 : (n.fdiv 10).fdiv (rows.length : Int) = v := hV
   rw [hv2]
   generalize hW : wordOf v = w at hwl hql ⊢
   refine TW.mono (Q := fun a H5 => a = .str (S (if k = 1 ∨ k = 5 then lit " #'" else [])) ∧ HLe H4 H5) ?_ fun a H5 h5 => ?_
   ·repeat walk_at "f"
    refine ⟨Nat.le_of_ble_eq_true tt, fun t1 g1 => ?_⟩
    refine CmpW.inTup (n := 0) (by decide) (isI k) (hset_same _ _ _) (fun y hy => ?_) ?_
    ·simp only [List.mem_cons, List.not_mem_nil, or_false] at hy
     rcases hy with rfl | rfl
     ·exact EqW.int _ _
     ·exact EqW.int _ _
    by_cases hk : k = 1 ∨ k = 5
    ·repeat walk_at "f"
     first | with_reducible refine IteK.t (any15_t hk) ?_ | with_reducible refine if_t (any15_t hk) ?_
     repeat walk_at "f"
     exact ⟨congrArg (fun z => AV.str (S z)) (if_pos hk).symm, HLe.new g1⟩
    ·repeat walk_at "f"
     first | with_reducible refine IteK.f (ne_true (any15_f hk)) ?_ | with_reducible refine if_f (ne_true (any15_f hk)) ?_
     repeat walk_at "f"
     exact ⟨congrArg (fun z => AV.str (S z)) (if_neg hk).symm, HLe.new g1⟩
   obtain ⟨ea, k5⟩ := h5
   subst ea
   refine OpW.addSS (by have e2 := figl (k := k); omega) ?_
   refine StoW.loc (by with_unfolding_all rfl) ?_
   have k25 : HLe H2 H5 := k3.trans k5
   with_reducible refine Then.next ?_
   with_reducible refine SS.seq (T843 k v w l.x rx H2) (fun _ hPs => ?_) ?_
   ·repeat walk_at "f"
    by_cases hk : k = 0
    ·first | with_reducible refine if_t (show (k == 0) = true from beq_iff_eq.mpr hk) ?_ | rw [show (k == 0) = true from beq_iff_eq.mpr hk, if_pos rfl]
     repeat walk_at "f"
     refine ⟨Nat.le_of_ble_eq_true tt, fun t1 g1 => ?_⟩
     refine CmpW.inTup (n := 0) (by decide) (isS w) (hset_same _ _ _) (fun y hy => ?_) ?_
     ·simp only [List.mem_cons, List.not_mem_nil, or_false] at hy
      rcases hy with rfl | rfl <;> (show EqW 0 _ _ _ (S _ == S w); rw [S_beq]; exact EqW.str _ _)
     by_cases hw : w = [] ∨ w = lit "*"
     ·have e : ([AV.str (S (lit "")), .str (S (lit "*"))].any (isS w)) = true := by rcases hw with rfl | rfl <;> rfl
      repeat walk_at "f"
      first | with_reducible refine if_t (e) ?_ | rw [e, if_pos rfl]
      repeat walk_at "f"
      have et : textOf k w = w := by unfold textOf; rw [if_pos ⟨hk, hw⟩]
      repeat walk_at "f"
      exact ⟨rfl, by walk_at "lk", by walk_at "lk", by walk_at "lk", by walk_at "lk", (by rw [et]; walk_at "lk"), by walk_at "lk", HLe.put g1 k25⟩
     ·have e : ([AV.str (S (lit "")), .str (S (lit "*"))].any (isS w)) = false := by
       show (S (lit "") == S w || (S (lit "*") == S w || false)) = false
       rw [S_beq, S_beq]
       have h1 : (lit "" == w) = false := beq_eq_false_iff_ne.mpr fun q => hw (.inl q.symm)
       have h2 : (lit "*" == w) = false := beq_eq_false_iff_ne.mpr fun q => hw (.inr q.symm)
       rw [h1, h2]; rfl
      repeat walk_at "f"
      first | with_reducible refine if_f (ne_true (e)) ?_ | rw [e, if_neg (by decide)]
      repeat walk_at "f"
      have et : textOf k w = quoteW w ++ (if k = 1 ∨ k = 5 then lit " #'" else []) := by unfold textOf; rw [if_neg fun q => hw q.2]
      repeat walk_at "f"
      exact ⟨rfl, by walk_at "lk", by walk_at "lk", by walk_at "lk", by walk_at "lk", (by rw [et]; walk_at "lk"), by walk_at "lk", HLe.put g1 k25⟩
    ·first | with_reducible refine if_f (ne_true (show (k == 0) = false from beq_eq_false_iff_ne.mpr hk)) ?_ | rw [show (k == 0) = false from beq_eq_false_iff_ne.mpr hk, if_neg (by decide)]
     repeat walk_at "f"
     first | with_reducible refine if_f (by decide) ?_ | with_reducible refine IfK.f (by decide) ?_ | with_reducible refine IteK.f (by decide) ?_ | rw [if_neg (by decide)]
     repeat walk_at "f"
     have et : textOf k w = quoteW w ++ (if k = 1 ∨ k = 5 then lit " #'" else []) := by unfold textOf; rw [if_neg fun q => hk q.1]
     repeat walk_at "f"
     exact ⟨rfl, by walk_at "lk", by walk_at "lk", by walk_at "lk", by walk_at "lk", (by rw [et]; walk_at "lk"), by walk_at "lk", k25⟩
   rintro L6 H6 ⟨m1, m2, m3, m4, m5, m6, k26⟩
   clear k25 k5 H5 la3 k3 H4
   clear hql hrs hfr hv2 hlg hl2
   have la6 := la2.mono k26
   have hrl6 := hrl.mono k26
   repeat walk_at "f"
   clear la2 hrl k26 f1
   have hnd := la6.rf.layNd (List.mem_of_getElem? hl)
   have hrb := hB.each _ (List.mem_of_getElem? hr)
   have b1 := hrb.agents
   have b2 := hrb.delays
   have b3 := hrb.rates
   have b4 := hrb.rules
   obtain ⟨la0, lt0, lu0, gx, ga, pa, gd, gt, pt, gu, pu⟩ := id hrl6
   have c1 := pa.length
   have c3 := pt.length
   have c4 := pu.length
   have fin : ∀ {b : Addr} {xs ys : List AV} {r' : Row} {L7 : AL} {H7 : AH}, HLe H6 H7 → b ∈ l.all → H7 b = some (.list xs) → RowLay (hset H7 b (.list ys)) l r' → L7 (o "rows") = some (.ref rx) → rowPut r k rows.length v = r' → rowNew k rows.length v = [] → K843 H rx (rowsOf (ns.take (i + 1))) L7 (hset H7 b (.list ys)) := fun k7 hb hx hr' e1 e2 e3 =>
    hInv' e1 (by rw [e2, e3, List.append_nil]; exact (la6.mono k7).setAt hl hb hx hr')
   repeat walk_at "f"
   by_cases hk2 : k < 2
   ·first | with_reducible refine if_t (decide_eq_true hk2) ?_ | rw [decide_eq_true hk2, if_pos rfl]
    repeat walk_at "f"
    refine SbW.list (x := .ref l.a) gx (by decide) rfl (by exact Nat.le_of_ble_eq_true tt) ?_
    refine ⟨⟨⟨_, ga⟩, rfl⟩, ?_⟩
    repeat walk_at "f"
    refine ⟨Nat.le_of_ble_eq_true tt, fun t1 g1 => ?_⟩
    repeat walk_at "f"
    obtain ⟨la, e1, e2, e3⟩ := (hrl6.mono (HLe.new g1)).setA (v := .ref t1) hnd (pairAt_mk (hset_same _ _ _))
    refine CallW.append e1 (by rw [e2]; exact Nat.le_trans b1 bi) ?_
    repeat walk_at "f"
    exact ⟨trivial, fin (HLe.new g1) l.memA e1 e3 (by walk_at "lk") (rp1 hW hk2) (rn0 (.inl (k7a hk2)))⟩
   first | with_reducible refine if_f (ne_true (decide_eq_false hk2)) ?_ | rw [decide_eq_false hk2, if_neg (by decide)]
   repeat walk_at "f"
   by_cases hk3 : k = 2
   ·first | with_reducible refine if_t (show (k == 2) = true from beq_iff_eq.mpr hk3) ?_ | rw [show (k == 2) = true from beq_iff_eq.mpr hk3, if_pos rfl]
    repeat walk_at "f"
    refine SbW.list (x := .ref l.d) gx (by decide) rfl (by exact Nat.le_of_ble_eq_true tt) ?_
    refine ⟨⟨⟨_, gd⟩, rfl⟩, ?_⟩
    repeat walk_at "f"
    obtain ⟨e1, e3⟩ := hrl6.setD (i := v.fmod 1000) hnd
    refine CallW.append e1 (by rw [List.length_map]; exact Nat.le_trans b2 (Nat.le_of_succ_le bi)) ?_
    repeat walk_at "f"
    exact ⟨trivial, fin HLe.rfl l.memD e1 e3 (by walk_at "lk") (rp2 hk2 hk3) (rn0 (.inl (k7b hk3)))⟩
   first | with_reducible refine if_f (ne_true (show (k == 2) = false from beq_eq_false_iff_ne.mpr hk3)) ?_ | rw [show (k == 2) = false from beq_eq_false_iff_ne.mpr hk3, if_neg (by decide)]
   repeat walk_at "f"
   by_cases hk4 : k = 3
   ·first | with_reducible refine if_t (show (k == 3) = true from beq_iff_eq.mpr hk4) ?_ | rw [show (k == 3) = true from beq_iff_eq.mpr hk4, if_pos rfl]
    repeat walk_at "f"
    refine SbW.list (x := .ref l.t) gx (by decide) rfl (by exact Nat.le_of_ble_eq_true tt) ?_
    refine ⟨⟨⟨_, gt⟩, rfl⟩, ?_⟩
    repeat walk_at "f"
    refine ⟨Nat.le_of_ble_eq_true tt, fun t1 g1 => ?_⟩
    repeat walk_at "f"
    obtain ⟨lt, e1, e2, e3⟩ := (hrl6.mono (HLe.new g1)).setT (v := .ref t1) (p := (v.fmod 10, (v.fdiv 10).fmod 100)) hnd ⟨t1, rfl, hset_same _ _ _⟩
    refine CallW.append e1 (by rw [e2]; exact Nat.le_trans b3 (Nat.le_of_succ_le bi)) ?_
    repeat walk_at "f"
    exact ⟨trivial, fin (HLe.new g1) l.memT e1 e3 (by walk_at "lk") (rp3 hk2 hk3 hk4) (rn0 (.inl (k7c hk4)))⟩
   first | with_reducible refine if_f (ne_true (show (k == 3) = false from beq_eq_false_iff_ne.mpr hk4)) ?_ | rw [show (k == 3) = false from beq_eq_false_iff_ne.mpr hk4, if_neg (by decide)]
   repeat walk_at "f"
   have hlenL : ∀ {H7 : AH} {Q : AV → AH → Prop} {L7 : AL}, HLe H6 H7 → Q (.int rows.length) H7 → CallW ⟨d, (fScope (topS 35)).names, []⟩ (.builtin "len") [.ref rx] L7 H7 Q := fun k7 q =>
    CallW.lenL (k7 _ _ la6.get) (by rw [List.length_map, hll]; exact leD hlr tt) (by rw [List.length_map, hll]; exact q)
   by_cases hk7 : k < 7
   ·repeat walk_at "f"
    refine if_t (decide_eq_true hk7) ?_
    repeat walk_at "f"
    first | with_reducible refine if_t rfl ?_ | with_reducible refine IfK.t rfl ?_ | rw [if_pos rfl]
    repeat walk_at "f"
    refine SbW.list (x := .ref l.u) gx (by decide) rfl (by exact Nat.le_of_ble_eq_true tt) ?_
    refine ⟨⟨⟨_, gu⟩, rfl⟩, ?_⟩
    repeat walk_at "f"
    refine ⟨Nat.le_of_ble_eq_true tt, fun t1 g1 => ?_⟩
    repeat walk_at "f"
    obtain ⟨lu, e1, e2, e3⟩ := (hrl6.mono (HLe.new g1)).setU (v := .ref t1) (p := (0, textOf k w, w)) hnd ⟨t1, rfl, hset_same _ _ _⟩
    refine CallW.append e1 (by rw [e2]; exact Nat.le_trans b4 (Nat.le_of_succ_le bi)) ?_
    repeat walk_at "f"
    exact ⟨trivial, fin (HLe.new g1) l.memU e1 e3 (by walk_at "lk") (rp4 hW hk2 hk3 hk4 (.inl hk7)) (rn0 (.inl hk7))⟩
   first | with_reducible refine if_f (ne_true (decide_eq_false hk7)) ?_ | rw [decide_eq_false hk7, if_neg (by decide)]
   repeat walk_at "f"
   refine hlenL HLe.rfl ?_
   repeat walk_at "f"
   by_cases hk5 : 5 < rows.length
   ·first | with_reducible refine if_t (show decide ((5 : Int) < (rows.length : Int)) = true from decide_eq_true (by omega)) ?_ | rw [show decide ((5 : Int) < (rows.length : Int)) = true from decide_eq_true (by omega), if_pos rfl]
    repeat walk_at "f"
    refine SbW.list (x := .ref l.u) gx (by decide) rfl (by exact Nat.le_of_ble_eq_true tt) ?_
    refine ⟨⟨⟨_, gu⟩, rfl⟩, ?_⟩
    repeat walk_at "f"
    refine ⟨Nat.le_of_ble_eq_true tt, fun t1 g1 => ?_⟩
    repeat walk_at "f"
    obtain ⟨lu, e1, e2, e3⟩ := (hrl6.mono (HLe.new g1)).setU (v := .ref t1) (p := (0, textOf k w, w)) hnd ⟨t1, rfl, hset_same _ _ _⟩
    refine CallW.append e1 (by rw [e2]; exact Nat.le_trans b4 (Nat.le_of_succ_le bi)) ?_
    repeat walk_at "f"
    exact ⟨trivial, fin (HLe.new g1) l.memU e1 e3 (by walk_at "lk") (rp4 hW hk2 hk3 hk4 (.inr hk5)) (rn0 (.inr hk5))⟩
   first | with_reducible refine if_f (ne_true (show decide ((5 : Int) < (rows.length : Int)) = false from decide_eq_false (by omega))) ?_ | rw [show decide ((5 : Int) < (rows.length : Int)) = false from decide_eq_false (by omega), if_neg (by decide)]
   repeat walk_at "f"
   refine SbW.list (x := .ref l.u) gx (by decide) rfl (by exact Nat.le_of_ble_eq_true tt) ?_
   refine ⟨⟨⟨_, gu⟩, rfl⟩, ?_⟩
   repeat walk_at "f"
   refine hlenL HLe.rfl ?_
   repeat walk_at "f"
   refine ⟨Nat.le_of_ble_eq_true tt, fun t1 g1 => ?_⟩
   repeat walk_at "f"
   obtain ⟨lu, e1, e2, e3⟩ := (hrl6.mono (HLe.new g1)).setU (v := .ref t1) (p := (rows.length, lit "", lit "")) hnd ⟨t1, rfl, hset_same _ _ _⟩
   refine CallW.append e1 (by rw [e2]; exact Nat.le_trans b4 (Nat.le_of_succ_le bi)) ?_
   repeat walk_at "f"
   have ep := rp5 (r := r) (v := v) hk2 hk3 hk4 (fun q => q.elim hk7 hk5)
   have la7 := (la6.mono (HLe.new g1)).setAt hl l.memU e1 e3
   rw [← ep] at la7
   dsimp only at la7
   generalize hset (hset H6 t1 (.tup [.int rows.length, .str (S (lit "")), .str (S (lit ""))])) l.u (.list (lu ++ [.ref t1])) = H7 at la7
   clear fin hlenL e1 e2 e3 gx ga pa gd gt pt gu pu hrl6 la6 g1
   refine ⟨⟨⟨_, la7.get⟩, rfl⟩, ?_⟩
   repeat walk_at "f"
   by_cases hk9 : k < 9
   ·first | with_reducible refine if_t (decide_eq_true hk9) ?_ | rw [decide_eq_true hk9, if_pos rfl]
    repeat walk_at "f"
    refine ⟨Nat.le_of_ble_eq_true tt, fun t2 g0 => ?_⟩
    repeat walk_at "f"
    refine ⟨Nat.le_of_ble_eq_true tt, fun a2 g2 => ?_⟩
    repeat walk_at "f"
    refine ⟨Nat.le_of_ble_eq_true tt, fun d2 g3 => ?_⟩
    repeat walk_at "f"
    refine ⟨Nat.le_of_ble_eq_true tt, fun r2 g4 => ?_⟩
    repeat walk_at "f"
    refine ⟨Nat.le_of_ble_eq_true tt, fun u2 g5 => ?_⟩
    repeat walk_at "f"
    refine ⟨Nat.le_of_ble_eq_true tt, fun x2 g6 => ?_⟩
    have al1 : Alcs H7 [] H7 := .nil
    have al2 := (((((al1.cons (o := .tup [.str (S (textOf k w)), .str (S w)]) g0).cons (o := .list [.ref t2]) g2).cons (o := .list []) g3).cons (o := .list []) g4).cons (o := .list []) g5).cons (o := .list [.ref a2, .ref d2, .ref r2, .ref u2]) g6
    have rl2 : RowLay _ ⟨x2, a2, d2, r2, u2⟩ ⟨[(textOf k w, w)], [], [], []⟩ := new_lay (hset_same _ _ _) (by walk_at "hk") (.one (pairAt_mk (by walk_at "hk"))) (by walk_at "hk") (by walk_at "hk") (by walk_at "hk")
    have la8 := la7.add al2 rl2
    have le8 := al2.facts.2.2
    repeat walk_at "f"
    refine CallW.append (le8 _ _ la7.get) (by rw [List.length_map, hll]; exact hlr) ?_
    repeat walk_at "f"
    refine ⟨trivial, hInv' (lays' := lays ++ [⟨x2, a2, d2, r2, u2⟩]) (by walk_at "lk") ?_⟩
    rw [rn1 hW (fun q => q.elim hk7 hk5) hk9]
    exact la8
   ·first | with_reducible refine if_f (ne_true (decide_eq_false hk9)) ?_ | rw [decide_eq_false hk9, if_neg (by decide)]
    repeat walk_at "f"
    refine ⟨Nat.le_of_ble_eq_true tt, fun a2 g2 => ?_⟩
    repeat walk_at "f"
    refine ⟨Nat.le_of_ble_eq_true tt, fun d2 g3 => ?_⟩
    repeat walk_at "f"
    refine ⟨Nat.le_of_ble_eq_true tt, fun r2 g4 => ?_⟩
    repeat walk_at "f"
    refine ⟨Nat.le_of_ble_eq_true tt, fun u2 g5 => ?_⟩
    repeat walk_at "f"
    refine ⟨Nat.le_of_ble_eq_true tt, fun x2 g6 => ?_⟩
    have al1 : Alcs H7 [] H7 := .nil
    have al2 := ((((al1.cons (o := .list []) g2).cons (o := .list []) g3).cons (o := .list []) g4).cons (o := .list []) g5).cons (o := .list [.ref a2, .ref d2, .ref r2, .ref u2]) g6
    have rl2 : RowLay _ ⟨x2, a2, d2, r2, u2⟩ ⟨[], [], [], []⟩ := new_lay (hset_same _ _ _) (by walk_at "hk") .nil (by walk_at "hk") (by walk_at "hk") (by walk_at "hk")
    have la8 := la7.add al2 rl2
    have le8 := al2.facts.2.2
    repeat walk_at "f"
    refine CallW.append (le8 _ _ la7.get) (by rw [List.length_map, hll]; exact hlr) ?_
    repeat walk_at "f"
    refine ⟨trivial, hInv' (lays' := lays ++ [⟨x2, a2, d2, r2, u2⟩]) (by walk_at "lk") ?_⟩
    rw [rn2 (fun q => q.elim hk7 hk5) hk9]
    exact la8
  ·intro L2 H2 h
   rw [List.length_map] at h
   repeat walk_at "f"
   exact ⟨rfl, h⟩
 intro L2 H2 h
 obtain ⟨lays, f1, la2⟩ := h
 repeat walk_at "f"
 rw [List.take_length] at la2
 rw [← hQ]
 exact ⟨la2.le, la2.rows⟩
end
end
end
section
noncomputable section
structure Near (A A' : Around) : Prop where
 frames : A'.frames = A.frames
 handled : A'.handled = A.handled
 depth : A'.depth ≤ A.depth + 1
 units : A'.units ≤ A.units + 20
theorem Near.in1 (A : Around) : Near A A.in1 := ⟨rfl, rfl, Nat.le_succ _, Nat.add_le_add_left (by decide) A.units⟩
theorem Near.makes (A : Around) {C : Addr} {vs : List Value} {kw : List (Str × Value)} : Near A (A.under (.builtin "type.__call__" ⟨.ref C :: vs, kw⟩)) := by
 have e1 : (Code.builtin "type.__call__" ⟨.ref C :: vs, kw⟩).weight = 1 := by kernel_rfl
 have e2 : (Code.builtin "type.__call__" ⟨.ref C :: vs, kw⟩).envs = [] := by kernel_rfl
 have e3 : (Code.builtin "type.__call__" ⟨.ref C :: vs, kw⟩).cUnits = 1 := by kernel_rfl
 refine ⟨?_, rfl, ?_, ?_⟩
 ·unfold Around.under
  rw [e2]; rfl
 ·unfold Around.under
  rw [e1]; exact Nat.le_refl _
 ·unfold Around.under
  rw [e3]; exact Nat.add_le_add_left (by decide) A.units
theorem Near.in2 (A : Around) : Near A A.in1.in1 := ⟨rfl, rfl, Nat.le_succ _, Nat.add_le_add_left (show 2 ≤ 20 by decide) A.units⟩
noncomputable def Cx.to (c : Cx) (A : Around) : Cx := ⟨{ c.d with A := A, room := c.d.room - 1 }, c.ns, c.cl⟩
section
variable {c : Cx} {L : AL} {H : AH} {R : List (Addr × Obj)} {s : Shared} {Q : AV → AH → Prop}
theorem Sim.to (S : Sim c L H R s) {A : Around} (n : Near c.d.A A) (hr : 1 ≤ c.d.room) : Sim (c.to A) L H R s :=
 ⟨⟨S.ok.below, S.ok.kin, S.ok.top, n.frames.trans S.ok.frames, n.handled.trans S.ok.handled, S.ok.frame, S.ok.fkind, S.ok.same, S.ok.hF, S.ok.kind, S.ok.names, S.ok.cells, S.ok.globals, S.ok.blt,
  near_room S.ok.room n.depth hr, near_units S.ok.units n.units hr⟩, S.fr, S.nw, S.hp, S.fin, S.sep, S.gens, S.os, fun e => let f := S.frm e; ⟨f.ns, f.nl, f.nh, f.nr⟩⟩
theorem Sim.off {A : Around} {s' : Shared} {L' : AL} {H' : AH} {R' : List (Addr × Obj)} (S : Sim c L H R s) (S' : Sim (c.to A) L' H' R' s') : Sim c L' H' R' s' :=
 ⟨S.ok, S'.fr, S'.nw, S'.hp, S'.fin, S'.sep, S'.gens, S'.os, fun e => let f := S'.frm e; ⟨f.ns, f.nl, f.nh, f.nr⟩⟩
inductive TurnOf (c : Cx) (L : AL) (H : AH) (R : List (Addr × Obj)) (s : Shared) (a : Addr) (ao : AObj) : Prop
 | mk' (o : Obj) (m : Str → Option Value) (pre post : List (Addr × Obj)) (r : ORel ao o) (F : Fr c.d.h₀ c.d.L s.heap m) (N : News c.d.h₀ c.d.L s.heap (pre ++ (a, o) :: post)) (h1 : ∀ p ∈ pre, p.1 ≠ a) (h2 : ∀ p ∈ post, p.1 ≠ a)
  (back : ∀ (s' : Shared) (o' : Obj) (ao' : AObj), ORel ao' o' → Fr c.d.h₀ c.d.L s'.heap m → News c.d.h₀ c.d.L s'.heap (pre ++ (a, o') :: post) → s'.gens = #[] → s'.os = s.os → Sim c L (hset H a ao') R s')
theorem Sim.turn (S : Sim c L H R s) {a : Addr} {ao : AObj} (ha : H a = some ao) : TurnOf c L H R s a ao := by
 obtain ⟨o, hr, g, hR, S1⟩ := S.toR ha
 obtain ⟨news, N, hin, hout⟩ := S1.news
 obtain ⟨m, F, hm⟩ := S1.fr
 have npre : ∀ p ∈ news, p.1 ≠ a := fun p hp q => by
  obtain ⟨ao, h1, _⟩ := hout p hp
  replace h1 : (if p.1 = a then none else H p.1) = some ao := h1
  rw [q, if_pos rfl] at h1; cases h1
 have sepF : ∀ o', ∀ p ∈ (a, o') :: R, (if p.1 = a then none else H p.1) = none := fun o' p hp => by
  rcases List.mem_cons.mp hp with rfl | hp
  ·exact if_pos rfl
  ·exact S1.sep p (.tail _ hp)
 have nrF : c.d.comp = true → ∀ o', ∀ p ∈ (a, o') :: R, p.1 ≠ c.d.F := fun hc o' p hp => by
  rcases List.mem_cons.mp hp with rfl | hp
  ·exact (S1.frm hc).nr (a, o) (.head _)
  ·exact (S1.frm hc).nr p (.tail _ hp)
 by_cases hc : c.d.comp = true
 ·have f := S.frm hc
  obtain ⟨oF, esF, epF, hoF, hdF, hkF, hfF⟩ := f.ns
  have hF0 : c.d.h₀.get? c.d.F = none := by
   cases q : c.d.h₀.get? c.d.F with
   | none => rfl
   | some x => exact absurd (Nat.lt_of_lt_of_le (Heap.lt_size q) (S.ok.hF hc)) (Nat.lt_irrefl _)
  have hFa : c.d.F ≠ a := fun q => by have := f.nh; rw [q, ha] at this; cases this
  refine ⟨o, m, news, (c.d.F, oF) :: R, hr, F, fun p hp => ?_, npre, fun p hp => ?_, fun s' o' ao' hr' F' N' hg hos => ?_⟩
  ·rcases List.mem_append.mp hp with hp | hp
   ·exact N p (List.mem_append_left _ hp)
   ·rcases List.mem_cons.mp hp with rfl | hp
    ·exact N _ (List.mem_append_right _ (.head _))
    ·rcases List.mem_cons.mp hp with rfl | hp
     ·exact ⟨hoF, f.nl, hF0⟩
     ·exact N p (List.mem_append_right _ (.tail _ hp))
  ·rcases List.mem_cons.mp hp with rfl | hp
   ·exact hFa
   ·exact hR p hp
  ·have S2 : Sim c L (fun b => if b = a then none else H b) ((a, o') :: R) s' := by
    refine ⟨S.ok, ⟨m, F', hm⟩, fun p hp => ?_, fun b bo e => ?_, S1.fin, sepF o', hg, hos.trans S.os, fun e => ⟨?_, f.nl, (S1.frm e).nh, nrF e o'⟩⟩
    ·rcases List.mem_cons.mp hp with rfl | hp
     ·exact N' _ (List.mem_append_right _ (.head _))
     ·exact N' p (List.mem_append_right _ (.tail _ (.tail _ hp)))
    ·obtain ⟨ob, h1, h2⟩ := hin b bo e
     have := N' _ (List.mem_append_left _ h1)
     exact ⟨ob, this.1, this.2.1, this.2.2, h2⟩
    ·exact ⟨oF, esF, epF, (N' _ (List.mem_append_right _ (.tail _ (.head _)))).1, hdF, hkF, hfF⟩
   have := S2.ofR (ao := ao') (.head _) hr' fun p hp => ⟨.tail _ hp, hR p hp⟩
   have e : hset (fun b => if b = a then none else H b) a ao' = hset H a ao' := funext fun b => by
    by_cases q : b = a
    ·rw [q, hset_same, hset_same]
    ·rw [hset_ne q, hset_ne q, if_neg q]
   rwa [e] at this
 ·refine ⟨o, m, news, R, hr, F, N, npre, hR, fun s' o' ao' hr' F' N' hg hos => ?_⟩
  have S2 : Sim c L (fun b => if b = a then none else H b) ((a, o') :: R) s' := by
   refine ⟨S.ok, ⟨m, F', hm⟩, fun p hp => N' p (List.mem_append_right _ hp), fun b bo e => ?_, S1.fin, sepF o', hg, hos.trans S.os, fun e => absurd e hc⟩
   obtain ⟨ob, h1, h2⟩ := hin b bo e
   have := N' _ (List.mem_append_left _ h1)
   exact ⟨ob, this.1, this.2.1, this.2.2, h2⟩
  have := S2.ofR (ao := ao') (.head _) hr' fun p hp => ⟨.tail _ hp, hR p hp⟩
  have e : hset (fun b => if b = a then none else H b) a ao' = hset H a ao' := funext fun b => by
   by_cases q : b = a
   ·rw [q, hset_same, hset_same]
   ·rw [hset_ne q, hset_ne q, if_neg q]
  rwa [e] at this
-- instances
noncomputable def putA (name : Str) (v : AV) : List (Str × AV) → List (Str × AV)
 | [] => [(name, v)]
 | (k, a) :: r => if k == name then (k, v) :: r else (k, a) :: putA name v r
noncomputable def getA (name : Str) (es : List (Str × AV)) : Option AV := (es.find? fun p => p.1 == name).map (·.2)
theorem getA_cons {name k : Str} {a : AV} {es : List (Str × AV)} : getA name ((k, a) :: es) = if (k == name) = true then some a else getA name es := by
 unfold getA
 rw [List.find?_cons]
 show Option.map _ (match k == name with | true => _ | false => _) = _
 cases k == name <;> rfl
theorem getL_cons {name k : Str} {t : Tok} {hs : Int} {v : Value} {ds : List DictEntry} : getL name (⟨hs, .str k t, v⟩ :: ds) = if (k == name) = true then some (some v) else getL name ds := by
 unfold getL
 rw [List.find?_cons]
 have e : (({ hash := hs, key := .str k t, val := v } : DictEntry).key.isStr name) = (k == name) := rfl
 rw [e]
 cases k == name with
 | true => rfl
 | false => rw [List.any_cons]; rfl
theorem getL_rel {name : Str} {es : List (Str × AV)} {ds : List DictEntry} (h : ERels es ds) : (getA name es = none ∧ getL name ds = some none) ∨ ∃ a v, getA name es = some a ∧ getL name ds = some (some v) ∧ VRel a v := by
 induction h with
 | nil => exact .inl ⟨rfl, rfl⟩
 | @cons k a v t hs es ds h r ih =>
  rw [getA_cons, getL_cons]
  by_cases hk : (k == name) = true
  ·rw [if_pos hk, if_pos hk]; exact .inr ⟨a, v, rfl, rfl, h⟩
  ·rw [if_neg hk, if_neg hk]; exact ih
theorem putA_rel {name : Str} {v : AV} {w : Value} {hs : Int} {t : Tok} (hv : VRel v w) {es : List (Str × AV)} {ds : List DictEntry} (h : ERels es ds) : ERels (putA name v es) (putL name hs (.str name t) w ds) := by
 induction h with
 | nil => exact .cons hv .nil
 | @cons k a _ _ _ _ es h r ih =>
  show ERels (if (k == name) = true then _ else _) (if (k == name) = true then _ else _)
  cases hk : k == name with
  | true => rw [if_pos rfl, if_pos rfl]; exact .cons hv r
  | false => rw [if_neg (by decide), if_neg (by decide)]; exact .cons h ih
theorem ERels.len {es : List (Str × AV)} {ds : List DictEntry} (h : ERels es ds) : es.length = ds.length := by
 induction h with
 | nil => rfl
 | cons _ _ ih => simp [ih]
noncomputable def ownOk (K : Frag) (C : Addr) (name : Str) : Bool := plainGet K C name && hasDictIn K C && (match findIn K (.ref C) name with | some a => noGet K a | none => false)
noncomputable def setOk (K : Frag) (C : Addr) (name : Str) : Bool := findIn K (.ref C) "__setattr__" == some (some (.builtin "object.__setattr__")) && plainOver K C && (takerIn K C name == some none) && hasDictIn K C
theorem Sim.inst (S : Sim c L H R s) {x dx C : Addr} {es : List (Str × AV)} (hx : H x = some (.inst C dx)) (hd : H dx = some (.dict es)) : ∃ ds n, InstAt s.heap x (instObj C dx) C (some (dictOf ds n)) ∧ ERels es ds := by
 obtain ⟨ox, g, _, _, e⟩ := S.hp _ _ hx
 cases e
 obtain ⟨od, gd, _, _, ds, n, rfl, hr⟩ := S.hp _ _ hd
 exact ⟨ds, n, ⟨g, rfl, rfl, gd⟩, hr⟩
theorem handed_of {a : AV} {v : Value} (h : VRel a v) (hb : a.isBlt = false) : handedIn v = true := by
 cases a with
 | int i => obtain ⟨t, rfl⟩ := h; rfl
 | str i => obtain ⟨t, rfl⟩ := h; rfl
 | blt i => cases hb
 | _ => cases h; rfl
theorem GetW.own {x dx C : Addr} {es : List (Str × AV)} {name : Str} {a : AV} (hx : H x = some (.inst C dx)) (hd : H dx = some (.dict es)) (hl : getA name es = some a) (hok : ownOk (KP c) C name = true) (h : Q a H) (hb : a.isBlt = false := by rfl) : GetW c (.ref x) name L H Q := by
 rintro _ rfl R s S
 obtain ⟨ds, n, I, hr⟩ := S.inst hx hd
 obtain ⟨m, F, _⟩ := S.fr
 obtain ⟨v, g1, g2⟩ : ∃ v, getL name ds = some (some v) ∧ VRel a v := by
  rcases getL_rel (name := name) hr with ⟨e, _⟩ | ⟨b, v, e, g1, g2⟩
  ·rw [e] at hl; cases hl
  ·rw [e] at hl; cases hl; exact ⟨v, g1, g2⟩
 unfold ownOk at hok
 obtain ⟨h12, h3⟩ := Bool.and_eq_true_iff.mp hok
 obtain ⟨h1, h2⟩ := Bool.and_eq_true_iff.mp h12
 cases hf : findIn (KP c) (.ref C) name with
 | none => rw [hf] at h3; cases h3
 | some at' =>
  rw [hf] at h3
  exact get_own F S.ok.kin I h1 h2 hf h3 g1 (handed_of g2 hb) ⟨a, H, g2, S.toks, h⟩
theorem SetW.own {x dx C : Addr} {es : List (Str × AV)} {name : Str} {a : AV} {Q : AH → Prop} (hx : H x = some (.inst C dx)) (hd : H dx = some (.dict es)) (hok : setOk (KP c) C name = true) (hz : es.length ≤ 900) (h : Q (hset H dx (.dict (putA name a es)))) : SetW c (.ref x) name a L H Q := by
 rintro _ vx rfl hv R s S
 obtain ⟨ox, gx, _, _, e⟩ := S.hp _ _ hx
 cases e
 obtain ⟨od, m, pre, post, hr, F, N, h1, h2, back⟩ := S.turn hd
 obtain ⟨ds, n, rfl, hr⟩ := hr
 have I : InstAt s.heap x (instObj C dx) C (some (dictOf ds n)) := ⟨gx, rfl, rfl, (N _ (List.mem_append_right _ (.head _))).1⟩
 have hl : (getL name ds).isSome = true := by
  rcases getL_rel (name := name) hr with ⟨_, e⟩ | ⟨b, v, _, e, _⟩ <;> rw [e] <;> rfl
 unfold setOk at hok
 simp only [Bool.and_eq_true, beq_iff_eq] at hok
 obtain ⟨⟨⟨s1, s2⟩, s3⟩, s4⟩ := hok
 have upd : ∀ o', Upd dx (dictOf ds n) o' (pre ++ (dx, dictOf ds n) :: post) (pre ++ (dx, o') :: post) := by
  intro o'
  clear N back
  induction pre with
  | nil => exact .head h2
  | cons p pre ih => exact .tail (h1 p (.head _)) (ih fun q hq => h1 q (.tail _ hq))
 have rel' := putA_rel (name := name) (hs := PyData.keyHash c.d.w.params name) (t := s.toks + 1) hv hr
 have hlen : (putA name a es).length ≤ es.length + 1 := by
  clear h rel' hr hd hl hz back I
  induction es with
  | nil => exact Nat.le_refl _
  | cons p es ih =>
   obtain ⟨k, b⟩ := p
   unfold putA
   split
   ·simp
   ·simp; omega
 refine set_dict F S.ok.kin N I rfl s1 s2 s3 s4 hl rfl (upd _) ?_ fun h' F' N' => ?_
 ·rw [← rel'.len]; omega
 ·exact ⟨L, _, back _ _ (.dict (putA name a es)) ⟨_, _, rfl, rel'⟩ F' N' S.gens rfl, rfl, h⟩
theorem CallKW.cls {C fI : Addr} {as kas : List AV} {kn : List Str} (hm : makesIn (KP c) C = true) (hi : findIn (KP c) (.ref C) "__init__" = some (some (.ref fI))) (hf : isFn (KP c) (.ref fI) = true) (hroom : 1 ≤ c.d.room)
  (h : ∀ A x dx, Near c.d.A A → H x = none → H dx = none → dx ≠ x → CodeW (c.to A) (.ref fI) (.ref x :: as) kn kas L (hset (hset H dx (.dict [])) x (.inst C dx)) fun v H' => v = .none ∧ Q (.ref x) H') : CallKW c (.ref C) as kn kas L H Q := by
 intro vs ws hv hw R s S
 obtain ⟨m, news, Rx, F, N, hin, hsep, back⟩ := S.ground
 refine call_cls F S.ok.kin N hm hi hf fun x dx h' F' N' hlt1 hlt2 => ?_
 have hnd : ∀ a ao, H a = some ao → a < dx := fun a ao e => by
  obtain ⟨o, ho, _⟩ := hin a ao e
  exact hlt1 _ (List.mem_append_left _ ho)
 have hdx : H dx = none := by
  cases q : H dx with
  | none => rfl
  | some o => exact absurd (hnd _ _ q) (Nat.lt_irrefl _)
 have hx : H x = none := by
  cases q : H x with
  | none => rfl
  | some o => exact absurd (Nat.lt_trans (hnd _ _ q) hlt2) (Nat.lt_irrefl _)
 have hne : dx ≠ x := Nat.ne_of_lt hlt2
 have S' : Sim c L (hset (hset H dx (.dict [])) x (.inst C dx)) R { s with heap := h' } := by
  refine back _ _ ((x, instObj C dx) :: (dx, dictOf [] 0) :: news) F' N' (fun a ao e => ?_) ?_ (fun p hp => ?_) S.gens rfl
  ·by_cases q : a = x
   ·subst q; rw [hset_same] at e; cases e; exact ⟨_, .head _, rfl⟩
   ·rw [hset_ne q] at e
    by_cases q' : a = dx
    ·subst q'; rw [hset_same] at e; cases e; exact ⟨_, .tail _ (.head _), [], 0, rfl, .nil⟩
    ·rw [hset_ne q'] at e
     obtain ⟨o, ho, hr⟩ := hin a ao e
     exact ⟨o, .tail _ (.tail _ ho), hr⟩
  ·obtain ⟨dm, hd⟩ := S.fin
   refine ⟨x :: dx :: dm, fun a ha => ?_⟩
   by_cases q : a = x
   ·rw [q]; exact .head _
   ·rw [hset_ne q] at ha
    by_cases q' : a = dx
    ·rw [q']; exact .tail _ (.head _)
    ·rw [hset_ne q'] at ha; exact .tail _ (.tail _ (hd a ha))
  ·have hlt := hlt1 p (List.mem_append_right _ hp)
   rw [hset_ne (Nat.ne_of_lt (Nat.lt_trans hlt hlt2)), hset_ne (Nat.ne_of_lt hlt)]
   exact hsep p hp
 refine RetP.to (h _ x dx (Near.makes _) hx hdx hne _ ws (.cons (a := .ref x) rfl hv) hw R _ (S'.to (Near.makes _) hroom)) fun v s' q => ?_
 obtain ⟨av, H', hv', S2, e, q⟩ := q
 subst e
 cases hv'
 exact ⟨rfl, .ref x, H', rfl, S.off S2, q⟩
structure MethAt (c : Cx) (H : AH) (a : AV) (name : Str) (x f : Addr) : Prop where
 e : a = .ref x
 at_ : ∃ C dx es, H x = some (.inst C dx) ∧ H dx = some (.dict es) ∧ getA name es = none ∧ plainGet (KP c) C name = true ∧ findIn (KP c) (.ref C) name = some (some (.ref f))
 fn : isFn (KP c) (.ref f) = true
 keep : keepIn (KP c) (.ref f) = true
theorem EW.methCore {ob : Expr} {args : List Expr} {name : Str} {apos pos : Pos} (h : EW c ob L H fun a H1 => ∃ x f, MethAt c H1 a name x f ∧ ∀ R s, Sim c L H1 R s → wpAny (model prg c.d.w) c.d.A (callWith pos (.ref f) [.ref x] (backTo pos (starEach args c.d.env)) (backToKw pos (keywordEach [] c.d.env))) (TQ c L R Q) nE s)
  (h1 : attributeBase ob name c.d.env (eval ob c.d.env) = eval ob c.d.env)
  (h2 : methodCallForm (args.length + 0) (backTo pos (starEach args c.d.env)) (backToKw pos (keywordEach [] c.d.env)) = true)
  (h3 : (apos.endLine == pos.line) = true) : EW c (.Call (.Attribute ob name apos) args [] pos) L H Q := fun R s S => by
 rw [arm_eval_Call, h1]
 refine wpAny_bind (h.run S fun v a H1 s1 hv S1 hx0 => ?_)
 obtain ⟨x, f, ⟨e, ⟨C, dx, es, hx, hd, hl, hg, hf⟩, ht, hk⟩, q⟩ := hx0
 subst e
 cases hv
 refine wpAny_bind (wpAny_standAt ?_)
 have hpos : methodCallPos true ob c.d.env apos pos = pure pos := by unfold methodCallPos; simp [h3]
 show wpAny _ _ (holding _ (calleeOf (methodCallForm (args.length + 0) (backTo pos (starEach args c.d.env)) (backToKw pos (keywordEach [] c.d.env))) ob c.d.env (.ref x) name) >>= fun y => methodCallPos (methodCallForm (args.length + 0) (backTo pos (starEach args c.d.env)) (backToKw pos (keywordEach [] c.d.env))) ob c.d.env apos pos >>= fun cp => callWith cp y.1 y.2 (backTo pos (starEach args c.d.env)) (backToKw pos (keywordEach [] c.d.env))) _ _ _
 rw [h2]
 obtain ⟨ds, n, I, hr⟩ := S1.inst hx hd
 obtain ⟨m, F, _⟩ := S1.fr
 have g : getL name ds = some none := by
  rcases getL_rel (name := name) hr with ⟨_, e⟩ | ⟨b, v, e, _⟩
  ·exact e
  ·rw [hl] at e; cases e
 refine wpAny_bind (wpAny_holding ?_)
 show wpAny _ _ (getMethod (.ref x) name _) _ _ _
 refine method_inst F S1.ok.kin I hg hf ht g ?_
 exact wpAny_bind (wpAny_of_eq hpos (q R _ S1))
theorem EW.meth0 {ob : Expr} {name : Str} {apos pos : Pos} (h : EW c ob L H fun a H1 => ∃ x f, MethAt c H1 a name x f ∧ CallW c (.ref f) [.ref x] L H1 Q)
  (h1 : attributeBase ob name c.d.env (eval ob c.d.env) = eval ob c.d.env := by with_unfolding_all rfl)
  (h2 : methodCallForm (([] : List Expr).length + 0) (backTo pos (starEach [] c.d.env)) (backToKw pos (keywordEach [] c.d.env)) = true := by with_unfolding_all rfl)
  (h3 : (apos.endLine == pos.line) = true := by with_unfolding_all rfl) : EW c (.Call (.Attribute ob name apos) [] [] pos) L H Q :=
 EW.methCore (TW.mono h fun a H1 z => by
  obtain ⟨x, f, hm, q⟩ := z
  exact ⟨x, f, hm, fun R s S => callWith_KW0 S.ok.kin hm.keep rfl (wpAny_evalAll_nil ⟨S.kin, q _ (.cons (a := .ref x) rfl .nil) R _ S⟩) rfl⟩) h1 h2 h3
theorem EW.meth {ob e : Expr} {es : List Expr} {name : Str} {apos pos : Pos} (h : EW c ob L H fun a H1 => ∃ x f, MethAt c H1 a name x f ∧ ES c (e :: es) pos L H1 fun as H2 => CallW c (.ref f) (.ref x :: as) L H2 Q)
  (h1 : attributeBase ob name c.d.env (eval ob c.d.env) = eval ob c.d.env := by with_unfolding_all rfl)
  (h2 : methodCallForm ((e :: es).length + 0) (backTo pos (starEach (e :: es) c.d.env)) (backToKw pos (keywordEach [] c.d.env)) = true := by with_unfolding_all rfl)
  (h3 : (apos.endLine == pos.line) = true := by with_unfolding_all rfl)
  (h4 : (((backTo pos (starEach (e :: es) c.d.env)).any fun x => x.1) || (backToKw pos (keywordEach [] c.d.env)).any fun x => x.1.isNone) = false := by with_unfolding_all rfl)
  (h5 : starEach (e :: es) c.d.env = (false, eval e c.d.env) :: starEach es c.d.env := by with_unfolding_all rfl) : EW c (.Call (.Attribute ob name apos) (e :: es) [] pos) L H Q :=
 EW.methCore (TW.mono h fun a H1 z => by
  obtain ⟨x, f, hm, q⟩ := z
  exact ⟨x, f, hm, fun R s S => callWith_KW S.ok.kin hm.keep rfl (q.run S fun vs as H2 s2 hvs S2 q2 => wpAny_evalAll_nil ⟨S2.kin, q2 (.ref x :: vs) (.cons (a := .ref x) rfl hvs) R _ S2⟩) h4 h5⟩) h1 h2 h3
end
end
end
section
set_option maxHeartbeats 4000000
noncomputable section
theorem set82_ua (P) : setOk (Kf P) 82 (Str.ofString "useragents") = true := by kernel_rfl
theorem set82_rl (P) : setOk (Kf P) 82 (Str.ofString "rulelines") = true := by kernel_rfl
theorem set82_dl (P) : setOk (Kf P) 82 (Str.ofString "delay") = true := by kernel_rfl
theorem set82_rr (P) : setOk (Kf P) 82 (Str.ofString "req_rate") = true := by kernel_rfl
theorem set82_rq (P) : setOk (Kf P) 82 (Str.ofString "requests") = true := by kernel_rfl
theorem set82_sc (P) : setOk (Kf P) 82 (Str.ofString "seconds") = true := by kernel_rfl
theorem own82_ua (P) : ownOk (Kf P) 82 (Str.ofString "useragents") = true := by kernel_rfl
theorem own82_rl (P) : ownOk (Kf P) 82 (Str.ofString "rulelines") = true := by kernel_rfl
theorem own82_dl (P) : ownOk (Kf P) 82 (Str.ofString "delay") = true := by kernel_rfl
theorem own82_rr (P) : ownOk (Kf P) 82 (Str.ofString "req_rate") = true := by kernel_rfl
theorem own82_rq (P) : ownOk (Kf P) 82 (Str.ofString "requests") = true := by kernel_rfl
theorem own82_sc (P) : ownOk (Kf P) 82 (Str.ofString "seconds") = true := by kernel_rfl
theorem make82 (P) : makesIn (Kf P) 82 = true := by kernel_rfl
theorem init82 (P) : findIn (Kf P) (.ref 82) "__init__" = some (some (.ref 58)) := by kernel_rfl
theorem fn58 (P) : isFn (Kf P) (.ref 58) = true := by kernel_rfl
theorem f58 (P) : (Kf P).lookup 58 = some (fnO (metS 4 0) (o "Entry.__init__") .none (.str (o "cpy313.urllib.robotparser") 331) (.ref 57)) := by rfl
theorem g58 (P) : codeIn (Kf P) (.ref 57) (o "Entry.__init__") = true := rfl
theorem Own.take {Hd H : AH} {ow : List (Addr × AObj)} (w : Own Hd ow H) {a : Addr} {x : AObj} (h : Hd a = some x) : Own (hdel Hd a) ((a, x) :: ow) H := by
 have ne : ∀ p ∈ ow, p.1 ≠ a := fun p hp q => by have := w.non p hp; rw [q, h] at this; cases this
 refine ⟨fun p hp => ?_, fun p hp => ?_, fun b hb => ?_, ?_⟩
 ·rcases List.mem_cons.mp hp with rfl | hp
  ·exact w.le _ _ h
  ·exact w.get p hp
 ·rcases List.mem_cons.mp hp with rfl | hp
  ·exact hdel_self _ _
  ·rw [hdel_ne (ne p hp)]; exact w.non p hp
 ·have hne : b ≠ a := fun q => hb _ (.head _) q.symm
  rw [hdel_ne hne]
  exact w.same b fun p hp => hb p (.tail _ hp)
 ·refine List.nodup_cons.mpr ⟨fun hm => ?_, w.nd⟩
  obtain ⟨p, hp, e⟩ := List.mem_map.mp hm
  exact ne p hp e
theorem Own.settle {Hd H : AH} {ow : List (Addr × AObj)} {a : Addr} {x : AObj} (w : Own Hd ((a, x) :: ow) H) : Own (hset Hd a x) ow H := by
 have h2 := List.nodup_cons.mp w.nd
 have ne : ∀ q ∈ ow, q.1 ≠ a := fun q hq e => h2.1 (List.mem_map.mpr ⟨q, hq, e⟩)
 refine ⟨fun p hp => w.get p (.tail _ hp), fun p hp => (hset_ne (ne p hp)).trans (w.non p (.tail _ hp)), fun b hb => ?_, h2.2⟩
 by_cases q : b = a
 ·rw [q, hset_same]; exact w.get (a, x) (.head _)
 ·rw [hset_ne q]
  refine w.same b fun p hp => ?_
  rcases List.mem_cons.mp hp with rfl | hp
  ·exact fun z => q z.symm
  ·exact hb p hp
theorem Own.all {Hd H : AH} (w : Own Hd [] H) : H = Hd := funext fun a => w.same a fun _ hp => nomatch hp
noncomputable def eDict (ua rl : Addr) (dl rr : AV) : List (Str × AV) := [(Str.ofString "useragents", .ref ua), (Str.ofString "rulelines", .ref rl), (Str.ofString "delay", dl), (Str.ofString "req_rate", rr)]
section
variable {c : Cx} {L : AL} {H : AH}
inductive P58 (H : AH) (dx : Addr) (a : AV) (H' : AH) : Prop
 | mk' (e : a = .none) (ua rl : Addr) (w : Own (hset (hset (hdel H dx) ua (.list [])) rl (.list [])) [(dx, .dict (eDict ua rl .none .none))] H') (n1 : hdel H dx ua = none) (n2 : hset (hdel H dx) ua (.list []) rl = none)
theorem c58 {x dx : Addr} (hroom : 1 ≤ c.d.room) (hx : H x = some (.inst 82 dx)) (hd : H dx = some (.dict [])) (hne : dx ≠ x) : CodeW c (.ref 58) [.ref x] [] [] L H (P58 H dx) := by
 refine CodeW.enterP (ns := [o "self"]) (bas := [.ref x]) (f58 _) (g58 _) (by first | exact room_1 hroom tt | omega) (fun vs ws hv hw => ?_) (by rfl) (by rfl) (by rfl) (by rfl) (by rfl) fun d hrm _ Pf hPf => ?_
 ·exact bind1 hv fun _ _ _ => BindsTo.of_eq (by rfl)
 conv in fBody _ => whnf
 have w0 : Own (hdel H dx) [(dx, .dict [])] H := (Own.nil H).take hd
 have hx0 : hdel H dx x = some (.inst 82 dx) := (hdel_ne (Ne.symm hne)).trans hx
 repeat walk_at "f"
 refine ⟨Nat.le_of_ble_eq_true tt, fun ua h1 => ?_⟩
 have w1 := w0.alloc (o := .list []) h1
 have u1 := w0.back h1
 repeat walk_at "f"
 refine SetW.own (w1.le _ _ (hset_old u1 hx0)) (w1.get _ (.head _)) (set82_ua _) (by exact Nat.le_of_ble_eq_true tt) ?_
 have w2 := w1.put0 (y := .dict (putA (Str.ofString "useragents") (.ref ua) []))
 generalize hset (hset H ua (.list [])) dx (.dict (putA (Str.ofString "useragents") (.ref ua) [])) = H2 at w2
 repeat walk_at "f"
 refine ⟨Nat.le_of_ble_eq_true tt, fun rl h2 => ?_⟩
 have w3 := w2.alloc (o := .list []) h2
 have u2 := w2.back h2
 repeat walk_at "f"
 refine SetW.own (w3.le _ _ (hset_old u2 (hset_old u1 hx0))) (w3.get _ (.head _)) (set82_rl _) (by simp [putA]) ?_
 have w4 := w3.put0 (y := .dict (putA (Str.ofString "rulelines") (.ref rl) (putA (Str.ofString "useragents") (.ref ua) [])))
 generalize hset (hset H2 rl (.list [])) dx (.dict (putA (Str.ofString "rulelines") (.ref rl) (putA (Str.ofString "useragents") (.ref ua) []))) = H4 at w4
 have hx4 : hset (hset (hdel H dx) ua (.list [])) rl (.list []) x = some (.inst 82 dx) := hset_old u2 (hset_old u1 hx0)
 repeat walk_at "f"
 refine SetW.own (w4.le _ _ hx4) (w4.get _ (.head _)) (set82_dl _) (Nat.le_trans (Nat.le_of_eq (rfl : _ = 2)) (by decide)) ?_
 have w5 := w4.put0 (y := .dict (putA (Str.ofString "delay") .none (putA (Str.ofString "rulelines") (.ref rl) (putA (Str.ofString "useragents") (.ref ua) []))))
 generalize hset H4 dx (.dict (putA (Str.ofString "delay") .none (putA (Str.ofString "rulelines") (.ref rl) (putA (Str.ofString "useragents") (.ref ua) [])))) = H5 at w5
 repeat walk_at "f"
 refine SetW.own (w5.le _ _ hx4) (w5.get _ (.head _)) (set82_rr _) (Nat.le_trans (Nat.le_of_eq (rfl : _ = 3)) (by decide)) ?_
 have w6 := w5.put0 (y := .dict (putA (Str.ofString "req_rate") .none (putA (Str.ofString "delay") .none (putA (Str.ofString "rulelines") (.ref rl) (putA (Str.ofString "useragents") (.ref ua) [])))))
 generalize hset H5 dx (.dict (putA (Str.ofString "req_rate") .none (putA (Str.ofString "delay") .none (putA (Str.ofString "rulelines") (.ref rl) (putA (Str.ofString "useragents") (.ref ua) []))))) = H6 at w6
 repeat walk_at "f"
 exact ⟨rfl, ua, rl, w6, u1, u2⟩
end
end
end
section
set_option maxHeartbeats 4000000
noncomputable section
theorem Own.putAt {Hd H : AH} {ow : List (Addr × AObj)} (w : Own Hd ow H) {j : Nat} {a : Addr} {x y : AObj} (h : ow[j]? = some (a, x)) : Own Hd (ow.set j (a, y)) (hset H a y) := by
 obtain ⟨hj, e⟩ := List.getElem?_eq_some_iff.mp h
 have e1 : ow = ow.take j ++ (a, x) :: ow.drop (j + 1) := by
  rw [← e, ← List.drop_eq_getElem_cons hj, List.take_append_drop]
 rw [List.set_eq_take_append_cons_drop, if_pos hj]
 rw [e1] at w
 exact w.put
noncomputable def zipD (ds : List Addr) (es : List (List (Str × AV))) : List (Addr × AObj) := (ds.zip es).map fun p => (p.1, .dict p.2)
theorem zipD_get {ds : List Addr} {es : List (List (Str × AV))} {j : Nat} {d : Addr} {e : List (Str × AV)} (h1 : ds[j]? = some d) (h2 : es[j]? = some e) : (zipD ds es)[j]? = some (d, .dict e) := by
 unfold zipD
 rw [List.getElem?_map, List.getElem?_zip_eq_some (z := (d, e)) |>.mpr ⟨h1, h2⟩]; rfl
theorem zipD_set {ds : List Addr} {es : List (List (Str × AV))} {j : Nat} {d : Addr} {e : List (Str × AV)} (h1 : ds[j]? = some d) : (zipD ds es).set j (d, .dict e) = zipD ds (es.set j e) := by
 induction ds generalizing es j with
 | nil => simp at h1
 | cons a ds ih =>
  cases es with
  | nil => rfl
  | cons b es =>
   cases j with
   | zero => simp at h1; subst h1; rfl
   | succ j => exact congrArg (_ :: ·) (ih (by simpa using h1))
noncomputable def delayV (r : Row) : AV := match r.delays.getLast? with
 | some d => .int d
 | none => .none
noncomputable def RateV (H : AH) (v : AV) (rates : List (Int × Int)) : Prop := match rates.getLast? with
 | none => v = .none
 | some p => ∃ rr dr es, v = .ref rr ∧ H rr = some (.inst 82 dr) ∧ H dr = some (.dict es) ∧ getA (Str.ofString "requests") es = some (.int p.1) ∧ getA (Str.ofString "seconds") es = some (.int p.2)
noncomputable def ruleV (xs : List Addr) (p : Nat × W × W) : AV := if p.1 > 0 then .ref (xs.getD p.1 0) else .str (S (lit "Disallow: " ++ p.2.1))
inductive RecD (H : AH) (xs : List Addr) (e : List (Str × AV)) (r : Row) : Prop
 | mk' (ua rl : Addr) (dv rv : AV) (h0 : e = eDict ua rl dv rv) (h1 : H ua = some (.list (r.agents.map fun p => .str (S p.1)))) (h2 : H rl = some (.list (r.rules.map (ruleV xs)))) (h3 : dv = delayV r) (h4 : RateV H rv r.rates)
theorem RateV.mono {H H' : AH} {v : AV} {rs : List (Int × Int)} (k : HLe H H') (h : RateV H v rs) : RateV H' v rs := by
 unfold RateV at h ⊢
 cases q : rs.getLast? with
 | none => rw [q] at h; exact h
 | some p => rw [q] at h; obtain ⟨rr, dr, es, e, h1, h2, h3⟩ := h; exact ⟨rr, dr, es, e, k _ _ h1, k _ _ h2, h3⟩
theorem RecD.mono {H H' : AH} {xs : List Addr} {e : List (Str × AV)} {r : Row} (k : HLe H H') (h : RecD H xs e r) : RecD H' xs e r := by
 obtain ⟨ua, rl, dv, rv, e, h1, h2, h3, h4⟩ := h
 exact ⟨ua, rl, dv, rv, e, k _ _ h1, k _ _ h2, h3, h4.mono k⟩
inductive RecAt (H : AH) (xs : List Addr) (x : Addr) (r : Row) : Prop
 | mk' (dx : Addr) (e : List (Str × AV)) (h1 : H x = some (.inst 82 dx)) (h2 : H dx = some (.dict e)) (h3 : RecD H xs e r)
inductive RecsAt (H : AH) (v : AV) (rows : List Row) : Prop
 | mk' (l : Addr) (xs : List Addr) (e : v = .ref l) (g : H l = some (.list (xs.map .ref))) (h : All2 (RecAt H xs) xs rows)
theorem RecAt.mono {H H' : AH} {xs : List Addr} {x : Addr} {r : Row} (k : HLe H H') (h : RecAt H xs x r) : RecAt H' xs x r := by
 obtain ⟨dx, e, h1, h2, h3⟩ := h
 exact ⟨dx, e, k _ _ h1, k _ _ h2, h3.mono k⟩
theorem f848 (P) : (Kf P).lookup 848 = some (fnO (topS 36) (o "_law_records") .none (.str (o "law_oy0424_01") 1358) (.ref 847)) := rfl
theorem g848 (P) : codeIn (Kf P) (.ref 847) (o "_law_records") = true := rfl
section
variable {c : Cx} {L : AL} {H : AH}
theorem ST.assignK {x : Str} {p pos : Pos} {e : Expr} {Q : AF → AL → AH → Prop} (hk : c.ns.lookup x = some .cell) (h : EW c e L H fun a H1 => StoW c x a L H1 (Q .next)) (hs : ∀ env : Env, env.blockKind = .function → env.kindOf x = some .cell → swapsWith e (some (.Name x p)) pos.line env = pure false) :
  ST c (.Assign [.Name x p] e pos) L H Q := fun _ _ S =>
 wpAny_Assign_Name (h.run S fun v av H' _ hv S' q => (q v hv).run S' fun L' H'' _ S'' q' => ⟨.next, L', H'', rfl, S'', q'⟩) (hs _ (by unfold Env.blockKind; rw [S.ok.kind]; rfl) (by unfold Env.kindOf; rw [S.ok.names]; exact hk))
structure KY (H0 : AH) (f : Nat → List AV) (k : Nat) (ys : List AV) (Hk : AH) : Prop where
 e : Hk = H0
 ey : ys = f k
structure LY (H0 : AH) (f : Nat → List AV) (k : Nat) (ys : List AV) (Hk : AH) : Prop where
 le : HLe H0 Hk
 ey : ys = f k
inductive New82 (H : AH) (v : AV) (H' : AH) : Prop
 | mk' (x dx ua rl : Addr) (e : v = .ref x) (le : HLe H H') (g : H' x = some (.inst 82 dx)) (g' : H' dx = some (.dict (eDict ua rl .none .none))) (n : H dx = none)
theorem newEntry (hroom : 2 ≤ c.d.room) : CallW c (.ref 82) [] L H (New82 H) := by
 refine CallKW.toCall (CallKW.cls (make82 _) (init82 _) (fn58 _) (Nat.le_of_succ_le hroom) fun A x dx nr hx hdx hne => ?_)
 refine (c58 (c := c.to A) (Nat.le_sub_one_of_lt hroom) (hset_same _ _ _) (by rw [hset_ne hne, hset_same]) hne).mono fun v H' z => ?_
 obtain ⟨e, ua, rl, w, u1, u2⟩ := z
 refine ⟨e, x, dx, ua, rl, rfl, ?_, ?_, w.get _ (.head _), hdx⟩
 ·refine (HLe.trans ?_ (HLe.put u2 (HLe.new u1))).trans w.le
  exact HLe.del hdx (HLe.put (by rw [hset_ne (Ne.symm hne)]; exact hx) (HLe.new hdx))
 ·refine w.le _ _ (hset_old u2 (hset_old u1 ?_))
  rw [hdel_ne (Ne.symm hne), hset_same]
theorem Own.of {H : AH} {ow : List (Addr × AObj)} (get : ∀ p ∈ ow, H p.1 = some p.2) (nd : (ow.map (·.1)).Nodup) : Own (fun b => if b ∈ ow.map (·.1) then none else H b) ow H :=
 ⟨get, fun p hp => if_pos (List.mem_map.mpr ⟨p, hp, rfl⟩), fun a ha => by
  have : a ∉ ow.map (·.1) := fun hm => by obtain ⟨p, hp, e⟩ := List.mem_map.mp hm; exact ha p hp e
  exact (if_neg this).symm, nd⟩
theorem zipD_of {Hk : AH} {xs ds : List Addr} (h : All2 (fun x d => Hk x = some (.inst 82 d) ∧ ∃ ua rl, Hk d = some (.dict (eDict ua rl .none .none))) xs ds) : ∃ es, es.length = ds.length ∧ (∀ e ∈ es, ∃ ua rl, e = eDict ua rl .none .none) ∧ (∀ p ∈ zipD ds es, Hk p.1 = some p.2) ∧ (zipD ds es).map (·.1) = ds := by
 induction h with
 | nil => exact ⟨[], rfl, (fun _ h => nomatch h), (fun _ h => nomatch h), rfl⟩
 | cons h _ ih =>
  obtain ⟨es, h1, h2, h3, h4⟩ := ih
  obtain ⟨_, ua, rl, h⟩ := h
  exact ⟨_ :: es, congrArg (· + 1) h1, List.forall_mem_cons.mpr ⟨⟨ua, rl, rfl⟩, h2⟩, List.forall_mem_cons.mpr ⟨h, h3⟩, congrArg (_ :: ·) h4⟩
theorem All2.ofIdx {α β : Type} {R : α → β → Prop} {as : List α} {bs : List β} (h : as.length = bs.length) (k : ∀ (i : Nat) a b, as[i]? = some a → bs[i]? = some b → R a b) : All2 R as bs := by
 induction as generalizing bs with
 | nil =>
  cases bs with
  | nil => exact .nil
  | cons => cases h
 | cons a as ih =>
  cases bs with
  | nil => cases h
  | cons b bs => exact .cons (k 0 a b rfl rfl) (ih (Nat.succ.inj h) fun i a b h1 h2 => k (i + 1) a b h1 h2)
inductive M848 (n rx : Addr) (H : AH) (rows : List Row) (L1 : AL) (H1 : AH) (xs ds : List Addr) (recL : Addr) (es : List (List (Str × AV))) (Hd : AH) : Prop
 | mk' (e1 : L1 (o "rows") = some (.ref rx)) (own : Own Hd ((n, .cell (some (.ref recL))) :: zipD ds es) H1) (k : HLe H Hd) (g : Hd recL = some (.list (xs.map .ref))) (ha : All2 (fun x d => Hd x = some (.inst 82 d)) xs ds) (l1 : ds.length = rows.length) (l2 : es.length = rows.length)
inductive O848 (n rx : Addr) (H : AH) (rows : List Row) (L1 : AL) (H1 : AH) : Prop
 | mk' (xs ds : List Addr) (recL : Addr) (es : List (List (Str × AV))) (Hd : AH) (m : M848 n rx H rows L1 H1 xs ds recL es Hd) (he : ∀ e ∈ es, ∃ ua rl, e = eDict ua rl .none .none)
inductive P848 (H' : AH) (k : Nat) (ys : List AV) (Hk : AH) : Prop
 | mk' (xs ds : List Addr) (e : ys = xs.map .ref) (k1 : HLe H' Hk) (ha : All2 (fun x d => Hk x = some (.inst 82 d) ∧ ∃ ua rl, Hk d = some (.dict (eDict ua rl .none .none))) xs ds) (hn : ds.Nodup) (hnew : ∀ d ∈ ds, H' d = none) (hl : ds.length = k)
inductive N848 (n rx : Addr) (H : AH) (rows : List Row) (xs ds : List Addr) (recL : Addr) (Hd : AH) (i : Nat) (L2 : AL) (H2 : AH) : Prop
 | mk' (es' : List (List (Str × AV))) (Hd' : AH) (m : M848 n rx H rows L2 H2 xs ds recL es' Hd') (k3 : HLe Hd Hd') (hdone : ∀ j e r, es'[j]? = some e → rows[j]? = some r → j < i → RecD Hd' xs e r) (htodo : ∀ j e, es'[j]? = some e → i ≤ j → ∃ ua rl, e = eDict ua rl .none .none)
inductive Q848 (rx dl t u n recL : Addr) (i : Nat) (ds : List Addr) (es' : List (List (Str × AV))) (rl0 : Addr) (Hd' : AH) (v : List AV) (L3 : AL) (H3 : AH) : Prop
 | mk' (Hd3 : AH) (ua : Addr) (f2 : L3 (o "rows") = some (.ref rx)) (f3 : L3 (o "k") = some (.int i)) (f4 : L3 (o "delays") = some (.ref dl)) (f5 : L3 (o "rates") = some (.ref t)) (f6 : L3 (o "rules") = some (.ref u))
  (w : Own Hd3 ((n, AObj.cell (some (.ref recL))) :: zipD ds (es'.set i (eDict ua rl0 .none .none))) H3) (k5 : HLe Hd' Hd3) (gua : Hd3 ua = some (.list v))
inductive R848 (rx dl t n recL : Addr) (i : Nat) (ds : List Addr) (es' : List (List (Str × AV))) (ua : Addr) (Hd3 : AH) (v : List AV) (L4 : AL) (H4 : AH) : Prop
 | mk' (Hd4 : AH) (rl' : Addr) (f2 : L4 (o "rows") = some (.ref rx)) (f3 : L4 (o "k") = some (.int i)) (f4 : L4 (o "delays") = some (.ref dl)) (f5 : L4 (o "rates") = some (.ref t))
  (w : Own Hd4 ((n, AObj.cell (some (.ref recL))) :: zipD ds (es'.set i (eDict ua rl' .none .none))) H4) (k6 : HLe Hd3 Hd4) (grl : Hd4 rl' = some (.list v))
inductive S848 (rx t : Addr) (i : Nat) (ow : List (Addr × AObj)) (Hd4 : AH) (L5 : AL) (H5 : AH) : Prop
 | mk' (Hd5 : AH) (f2 : L5 (o "rows") = some (.ref rx)) (f3 : L5 (o "k") = some (.int i)) (f5 : L5 (o "rates") = some (.ref t)) (w : Own Hd5 ow H5) (k7 : HLe Hd4 Hd5)
theorem c848 {rs : AV} {rows : List Row} (hroom : 4 ≤ c.d.room) (hrows : RowsAt H rs rows) (hok : RowsOk rows) : CodeW c (.ref 848) [rs] [] [] L H (fun a H' => HLe H H' ∧ RecsAt H' a rows) := by
 generalize hQ : (fun (a : AV) (H' : AH) => HLe H H' ∧ RecsAt H' a rows) = Q
 refine CodeW.enterCP (ns := [o "rows"]) (bas := [rs]) (f848 _) (g848 _) (by first | exact room_1 hroom tt | omega) (fun vs ws hv hw => ?_) (by rfl) (by decide +kernel) (by decide +kernel) (by rfl) (by rfl) (by rfl) fun d n H' hrm _ hle hcells Pf hPf => ?_
 ·exact bind1 hv fun _ _ _ => BindsTo.of_eq (by rfl)
 have ecl : cellsFrom n (fScope (topS 36)).names [] = [(o "records", n)] := by rfl
 rw [ecl] at hcells ⊢
 have cr := hcells (o "records") n (by simp)
 clear hcells ecl
 conv in fBody _ => whnf
 generalize hL0 : (fun y => if (fScope (topS 36)).names.lookup y = some .local then bindA [o "rows"] [rs] y else none) = L0
 have eL0 : L0 (o "rows") = some rs := by rw [← hL0]; rfl
 clear hL0
 have cr2 : H' n = some (.cell none) := cr.2
 obtain ⟨rx, rl, rfl, hrx, hrl⟩ := hrows
 have hlen : rl.length ≤ 60 := by rw [hrl.length]; exact hok.2.2
 with_reducible refine SS.seq (O848 n rx H rows) (fun _ hPs => ?_) ?_
 ·refine ST.assignK (by with_unfolding_all rfl) ?_ (fun env h1 h2 => by show (pure (_ && _ && _ && _) : Sem Bool) = _; rw [h1, h2]; rfl)
  refine EW.comp (cl := []) (clo (by with_unfolding_all rfl)) ?_
  repeat walk_at "f"
  refine ⟨_, _, IterW.list (hle _ _ hrx), leD hlen tt, P848 H', ?_, ?_, ?_, ?_⟩
  ·exact ⟨[], [], rfl, HLe.rfl, .nil, .nil, (fun _ h => nomatch h), rfl⟩
  ·rintro i ys Hk ⟨_, _, _, k1, _⟩
   exact k1 _ _ (hle _ _ hrx)
  ·rintro d2 hrm2 _ i x ys L2 Hk hx Pk Pn hPk ⟨xs, ds, rfl, k1, ha, hnd, hnew, hl⟩
   repeat walk_at "f"
   refine TestsW.nil ?_
   first | with_reducible refine if_t rfl ?_ | with_reducible refine IfK.t rfl ?_ | with_reducible refine IteK.t rfl ?_ | rw [if_pos rfl]
   repeat walk_at "f"
   refine (newEntry (by first | exact room_le2 hroom hrm hrm2 tt | (replace hrm2 : d2.room = d.room := hrm2; show 2 ≤ d2.room; omega) | (show 2 ≤ d2.room; omega))).mono fun v H5 h5 => ?_
   obtain ⟨x5, d5, ua, rl5, rfl, k5, g1, g2, g3⟩ := h5
   repeat walk_at "f"
   refine ⟨xs ++ [x5], ds ++ [d5], by simp, k1.trans k5, (ha.mono fun x d h => ⟨k5 _ _ h.1, let ⟨u, r, e⟩ := h.2; ⟨u, r, k5 _ _ e⟩⟩).append (.one ⟨g1, ua, rl5, g2⟩), ?_, fun d hd => ?_, by simp [hl]⟩
   ·rw [List.nodup_append]
    refine ⟨hnd, by simp, fun p hp q hq e => ?_⟩
    have : q = d5 := by simpa using hq
    subst this
    subst e
    obtain ⟨j, hj⟩ := List.mem_iff_getElem?.mp hp
    obtain ⟨x', _, _, u, r, h'⟩ := ha.getR hj
    rw [g3] at h'; cases h'
   ·rcases List.mem_append.mp hd with hd | hd
    ·exact hnew d hd
    ·have : d = d5 := by simpa using hd
     rw [this]; exact k1.back g3
  ·rintro ys Hk _ ⟨xs, ds, rfl, k1, ha, hnd, hnew, hl⟩ D hD
   refine StoW.cel (ca := n) (by with_unfolding_all rfl) (by with_unfolding_all rfl) (hset_old hD (k1 _ _ cr2)) ?_
   obtain ⟨es, e1, e2, e3, e4⟩ := zipD_of ha
   have hnD : D ≠ n := ne_of hD (k1 _ _ cr2)
   have hnds : n ∉ ds := fun hm => by have := hnew n hm; rw [cr2] at this; cases this
   have hk' : ∀ a ao, a ≠ n → Hk a = some ao → hset (hset Hk D (.list (xs.map .ref))) n (.cell (some (.ref D))) a = some ao := fun a ao h1 h2 => (hset_ne h1).trans (hset_old hD h2)
   have own := Own.of (H := hset (hset Hk D (.list (xs.map .ref))) n (.cell (some (.ref D)))) (ow := (n, .cell (some (.ref D))) :: zipD ds es) (fun p hp => by
    rcases List.mem_cons.mp hp with rfl | hp
    ·exact hset_same _ _ _
    ·have hm : p.1 ∈ ds := by rw [← e4]; exact List.mem_map.mpr ⟨p, hp, rfl⟩
     exact hk' _ _ (fun q => hnds (q ▸ hm)) (e3 p hp)) (by rw [List.map_cons, e4]; exact List.nodup_cons.mpr ⟨hnds, hnd⟩)
   have ekeys : ((n, AObj.cell (some (.ref D))) :: zipD ds es).map (·.1) = n :: ds := by rw [List.map_cons, e4]
   rw [ekeys] at own
   have hin : ∀ a ao, a ∉ n :: ds → Hk a = some ao → (if a ∈ n :: ds then none else hset (hset Hk D (.list (xs.map .ref))) n (.cell (some (.ref D))) a) = some ao := fun a ao h1 h2 => (if_neg h1).trans (hk' a ao (fun q => h1 (by rw [q]; exact .head _)) h2)
   have hnot : ∀ a ao, H' a = some ao → a ≠ n → a ∉ n :: ds := fun a ao h1 h2 hm => by
    rcases List.mem_cons.mp hm with e | hm
    ·exact h2 e
    ·have := hnew a hm; rw [h1] at this; cases this
   repeat walk_at "f"
   refine ⟨rfl, xs, ds, D, es, _, ⟨by walk_at "lk", own, fun a ao e => ?_, ?_, ?_, by rw [hl, hrl.length], by rw [e1, hl, hrl.length]⟩, e2⟩
   ·have hne : a ≠ n := fun q => by rw [q, cr.1] at e; cases e
    exact hin a ao (hnot a ao (hle _ _ e) hne) (k1 _ _ (hle _ _ e))
   ·have : D ∉ n :: ds := fun hm => by
     rcases List.mem_cons.mp hm with e | hm
     ·exact hnD e
     ·obtain ⟨j, hj⟩ := List.mem_iff_getElem?.mp hm
      obtain ⟨x', _, _, u, r, h'⟩ := ha.getR hj
      rw [hD] at h'; cases h'
    exact (if_neg this).trans ((hset_ne hnD).trans (hset_same _ _ _))
   ·refine ha.mono fun x d h => hin x _ (fun hm => ?_) h.1
    rcases List.mem_cons.mp hm with e | hm
    ·have := k1 _ _ cr2; rw [← e, h.1] at this; cases this
    ·obtain ⟨j, hj⟩ := List.mem_iff_getElem?.mp hm
     obtain ⟨x', _, _, u, r, h'⟩ := ha.getR hj
     rw [h.1] at h'; cases h'
 rintro L1 H1 ⟨xs, ds, recL, es, Hd, hm, hes⟩
 obtain ⟨e1, own, k1, gl, ha, hl1, hl2⟩ := hm
 have hxl : xs.length = rows.length := ha.length.trans hl1
 with_reducible refine SS.seq (N848 n rx H rows xs ds recL Hd rows.length) (fun _ hPs => ?_) ?_
 ·refine ST.forP ?_
  repeat walk_at "f"
  refine CallW.lenL (own.le _ _ (k1 _ _ hrx)) (leD hlen tt) ?_
  repeat walk_at "f"
  refine CallW.range1 fun r t1 t2 t3 hrn => ?_
  refine ⟨_, _, IterW.range (by walk_at "hk") (leD hlen tt), N848 n rx H rows xs ds recL Hd, ?_, fun _ _ _ _ => trivial, ?_, ?_⟩
  ·have w2 := own.alloc (o := .raw (rangeO rl.length t1 t2 t3)) hrn
   have u := own.back hrn
   refine ⟨es, _, ⟨e1, w2, HLe.put u k1, hset_old u gl, ha.mono fun x d h => hset_old u h, hl1, hl2⟩, HLe.new u, fun j e r _ _ h => absurd h (Nat.not_lt_zero _), fun j e he _ => hes e (List.mem_of_getElem? he)⟩
  ·rintro i x L2 H2 hx Pk hPk hI
   obtain ⟨es', Hd', ⟨f1, w, k2, gl2, ha2, _, hl3⟩, k3, hdone, htodo⟩ := hI
   have hi : i < rl.length := by have := (List.getElem?_eq_some_iff.mp hx).1; rwa [upTo_len] at this
   rw [upTo_get hi] at hx
   cases hx
   have hir : i < rows.length := by rw [← hrl.length]; exact hi
   obtain ⟨row, hrow⟩ : ∃ r, rows[i]? = some r := ⟨_, List.getElem?_eq_getElem hir⟩
   obtain ⟨_, hrv, xw, a, dl, t, u, la, lt, lu, rfl, gx, ga, pa, gd, gt, pt, gu, pu⟩ := hrl.getR hrow
   obtain ⟨di, hdi⟩ : ∃ x, ds[i]? = some x := ⟨_, List.getElem?_eq_getElem (by rw [hl1]; exact hir)⟩
   obtain ⟨xi, hxi, gxi⟩ := ha2.getR hdi
   obtain ⟨e0, he0⟩ : ∃ x, es'[i]? = some x := ⟨_, List.getElem?_eq_getElem (by rw [hl3]; exact hir)⟩
   obtain ⟨ua0, rl0, rfl⟩ := htodo i e0 he0 (Nat.le_refl _)
   have hokr := hok.1 _ (List.mem_of_getElem? hrow)
   have hokc := hok.2.1 _ (List.mem_of_getElem? hrow)
   have c1 := pa.length
   have c2 := pt.length
   have c3 := pu.length
   have c4 := hokr.count
   have c5 := hokr.small
   have c6 := hokr.small2
   have hxlen : (xs.map AV.ref).length ≤ 1000000 := by rw [List.length_map, ha2.length, hl1, ← hrl.length]; exact leD hlen tt
   have hxg : (xs.map AV.ref)[i]? = some (.ref xi) := by rw [List.getElem?_map, hxi]; rfl
   have hidx : ∀ e, ((n, AObj.cell (some (.ref recL))) :: zipD ds (es'.set i e))[i + 1]? = some (di, .dict e) := fun e => by
    rw [List.getElem?_cons_succ]
    exact zipD_get hdi (by rw [List.getElem?_set_self]; rw [hl3]; exact hir)
   have hput : ∀ {Hd3 H3 e e'}, Own Hd3 ((n, AObj.cell (some (.ref recL))) :: zipD ds (es'.set i e)) H3 → Own Hd3 ((n, AObj.cell (some (.ref recL))) :: zipD ds (es'.set i e')) (hset H3 di (.dict e')) := fun {Hd3 H3 e e'} w => by
    have := w.putAt (y := .dict e') (hidx e)
    rw [List.set_cons_succ, zipD_set hdi, List.set_set] at this
    exact this
   have w0 : Own Hd' ((n, AObj.cell (some (.ref recL))) :: zipD ds (es'.set i (eDict ua0 rl0 .none .none))) H2 := by
    have : es'.set i (eDict ua0 rl0 .none .none) = es' := List.ext_getElem? fun j => by
     by_cases q : i = j
     ·subst q; rw [List.getElem?_set_self (by rw [hl3]; exact hir), he0]
     ·rw [List.getElem?_set_ne q]
    rw [this]; exact w
   have fin : ∀ {L3 H3 e Hd3}, L3 (o "rows") = some (.ref rx) → Own Hd3 ((n, AObj.cell (some (.ref recL))) :: zipD ds (es'.set i e)) H3 → HLe Hd' Hd3 → RecD Hd3 xs e row → N848 n rx H rows xs ds recL Hd (i + 1) L3 H3 := fun {L3 H3 e Hd3} q1 q2 q3 q4 => by
    refine ⟨es'.set i e, Hd3, ⟨q1, q2, k2.trans q3, q3 _ _ gl2, ha2.mono fun _ _ h => q3 _ _ h, hl1, by rw [List.length_set]; exact hl3⟩, k3.trans q3, fun j ej rj h1 h2 h3 => ?_, fun j ej h1 h3 => ?_⟩
    ·by_cases q : i = j
     ·subst q
      rw [List.getElem?_set_self (by rw [hl3]; exact hir)] at h1
      rw [hrow] at h2
      cases h1; cases h2; exact q4
     ·rw [List.getElem?_set_ne q] at h1
      exact (hdone j ej rj h1 h2 (Nat.lt_of_le_of_ne (Nat.le_of_lt_succ h3) (Ne.symm q))).mono q3
    ·rw [List.getElem?_set_ne (Nat.ne_of_lt h3)] at h1
     exact htodo j ej h1 (Nat.le_of_succ_le h3)
   have cellA : ∀ {Hd3 H3 e}, Own Hd3 ((n, AObj.cell (some (.ref recL))) :: zipD ds (es'.set i e)) H3 → H3 n = some (.cell (some (.ref recL))) := fun w => w.get _ (.head _)
   clear hdone htodo w hes own e1 gl ha hxl k1 hrn
   repeat walk_at "f"
   refine SbW.list (w0.le _ _ (k2 _ _ hrx)) (Int.natCast_nonneg _) (by exact hrv) (leD hlen tt) ?_
   refine AsW.lst (w0.le _ _ (k2 _ _ gx)) (by rfl) ?_
   refine d_ae ?_
   repeat walk_at "f"
   refine d_ae ?_
   repeat walk_at "f"
   refine d_ae ?_
   repeat walk_at "f"
   refine d_ae ?_
   repeat walk_at "f"
   refine AsEach.nil ?_
   with_reducible refine Then.next ?_
   with_reducible refine SS.seq (Q848 rx dl t u n recL i ds es' rl0 Hd' (row.agents.map fun p => .str (S p.1))) (fun _ hPs => ?_) ?_
   ·refine ST.assignA ?_
    refine EW.comp (cl := []) (clo (by with_unfolding_all rfl)) ?_
    repeat walk_at "f"
    refine ⟨_, _, IterW.list (w0.le _ _ (k2 _ _ ga)), by rw [c1]; exact leD c4.1 tt, KY H2 fun k => (row.agents.take k).map fun p => AV.str (S p.1), ⟨rfl, rfl⟩, ?_, ?_, ?_⟩
    ·rintro k ys Hk ⟨rfl, _⟩
     exact w0.le _ _ (k2 _ _ ga)
    ·rintro d2 hrm2 _ k x ys L4 Hk hx Pk Pn hPk ⟨rfl, rfl⟩
     obtain ⟨p, hp, ax, rfl, gax⟩ := pa.getL hx
     refine AsW.tup (w0.le _ _ (k2 _ _ gax)) (by rfl) ?_
     refine d_ae ?_
     repeat walk_at "f"
     refine d_ae ?_
     repeat walk_at "f"
     refine AsEach.nil ?_
     refine TestsW.nil ?_
     first | with_reducible refine if_t rfl ?_ | with_reducible refine IfK.t rfl ?_ | with_reducible refine IteK.t rfl ?_ | rw [if_pos rfl]
     repeat walk_at "f"
     exact ⟨rfl, (snocM (f := fun p : W × W => AV.str (S p.1)) hp).symm⟩
    ·rintro ys Hk _ ⟨rfl, rfl⟩ D hD
     rw [c1, List.take_length]
     have w1 := w0.alloc (o := .list (row.agents.map fun p => AV.str (S p.1))) hD
     have u1 := w0.back hD
     repeat walk_at "f"
     refine EW.cell (by with_unfolding_all rfl) (by with_unfolding_all rfl) (cellA w1) ?_
     repeat walk_at "f"
     refine SbW.list (w1.le _ _ (hset_old u1 gl2)) (Int.natCast_nonneg _) (by exact hxg) hxlen ?_
     refine SetW.own (w1.le _ _ (hset_old u1 gxi)) (w1.get _ (List.mem_of_getElem? (hidx _))) (set82_ua _) (by exact Nat.le_of_ble_eq_true tt) ?_
     have w2 := hput (e' := putA (Str.ofString "useragents") (.ref D) (eDict ua0 rl0 .none .none)) w1
     repeat walk_at "f"
     exact ⟨rfl, _, D, by walk_at "lk", by walk_at "lk", by walk_at "lk", by walk_at "lk", by walk_at "lk", w2, HLe.new u1, hset_same _ _ _⟩
   clear w0
   rintro L3 H3 ⟨Hd3, ua, f2, f3, f4, f5, f6, w3, k5, gua⟩
   clear f1
   have kH3 : HLe H Hd3 := k2.trans k5
   have gl3 := k5 _ _ gl2
   have gxi3 := k5 _ _ gxi
   have hxch : ∀ p ∈ row.rules, (xs.map AV.ref)[p.1]? = some (.ref (xs.getD p.1 0)) := fun p hp => by
    have hlt : p.1 < xs.length := by rw [ha2.length, hl1]; exact hokc p hp
    rw [List.getElem?_map, List.getD_eq_getElem?_getD, List.getElem?_eq_getElem hlt]; rfl
   with_reducible refine SS.seq (R848 rx dl t n recL i ds es' ua Hd3 (row.rules.map (ruleV xs))) (fun _ hPs => ?_) ?_
   ·refine ST.assignA ?_
    refine EW.comp (cl := [(o "records", n)]) (clo (by with_unfolding_all rfl)) ?_
    repeat walk_at "f"
    refine ⟨_, _, IterW.list (w3.le _ _ (kH3 _ _ gu)), by rw [c3]; exact leD c4.2 tt, KY H3 fun k => (row.rules.take k).map (ruleV xs), ⟨rfl, rfl⟩, ?_, ?_, ?_⟩
    ·rintro k ys Hk ⟨rfl, _⟩
     exact w3.le _ _ (kH3 _ _ gu)
    ·rintro d2 hrm2 _ k x ys L4 Hk hx Pk Pn hPk ⟨rfl, rfl⟩
     obtain ⟨p, hp, ax, rfl, gax⟩ := pu.getL hx
     have hpm := List.mem_of_getElem? hp
     have hpl := hokr.rules _ hpm
     refine AsW.tup (w3.le _ _ (kH3 _ _ gax)) (by rfl) ?_
     refine d_ae ?_
     repeat walk_at "f"
     refine d_ae ?_
     repeat walk_at "f"
     refine d_ae ?_
     repeat walk_at "f"
     refine AsEach.nil ?_
     refine TestsW.nil ?_
     first | with_reducible refine if_t rfl ?_ | with_reducible refine IfK.t rfl ?_ | with_reducible refine IteK.t rfl ?_ | rw [if_pos rfl]
     have et : ∀ v, ruleV xs p = v → (row.rules.take k).map (ruleV xs) ++ [v] = (row.rules.take (k + 1)).map (ruleV xs) := fun v hv => by rw [List.take_add_one, hp, List.map_append]; exact congrArg (_ ++ [·]) hv.symm
     repeat walk_at "f"
     by_cases hpos : p.1 > 0
     ·first | with_reducible refine if_t (show decide ((0 : Int) < (p.1 : Int)) = true from decide_eq_true (by omega)) ?_ | rw [show decide ((0 : Int) < (p.1 : Int)) = true from decide_eq_true (by omega), if_pos rfl]
      repeat walk_at "f"
      refine EW.cell (by with_unfolding_all rfl) (by with_unfolding_all rfl) (cellA w3) ?_
      repeat walk_at "f"
      refine SbW.list (w3.le _ _ gl3) (Int.natCast_nonneg _) (by exact hxch p hpm) hxlen ?_
      repeat walk_at "f"
      exact ⟨rfl, et _ (by unfold ruleV; rw [if_pos hpos])⟩
     ·first | with_reducible refine if_f (ne_true (show decide ((0 : Int) < (p.1 : Int)) = false from decide_eq_false (by omega))) ?_ | rw [show decide ((0 : Int) < (p.1 : Int)) = false from decide_eq_false (by omega), if_neg (by decide)]
      repeat walk_at "f"
      refine OpW.addSS (by first | exact Nat.le_trans (Nat.add_le_add (Nat.le_of_eq (show (lit "Disallow: ").length = 10 by decide)) (by first | exact (hok2 _ _).2 | assumption)) (by decide)
                                 | (have e : (lit "Disallow: ").length = 10 := by decide
                                    omega)) ?_
      repeat walk_at "f"
      exact ⟨rfl, et _ (by unfold ruleV; rw [if_neg hpos])⟩
    ·rintro ys Hk _ ⟨rfl, rfl⟩ D hD
     rw [c3, List.take_length]
     have w4 := w3.alloc (o := .list (row.rules.map (ruleV xs))) hD
     have u1 := w3.back hD
     repeat walk_at "f"
     refine EW.cell (by with_unfolding_all rfl) (by with_unfolding_all rfl) (cellA w4) ?_
     repeat walk_at "f"
     refine SbW.list (w4.le _ _ (hset_old u1 gl3)) (Int.natCast_nonneg _) (by exact hxg) hxlen ?_
     refine SetW.own (w4.le _ _ (hset_old u1 gxi3)) (w4.get _ (List.mem_of_getElem? (hidx _))) (set82_rl _) (by exact Nat.le_of_ble_eq_true tt) ?_
     have w5 := hput (e' := putA (Str.ofString "rulelines") (.ref D) (eDict ua rl0 .none .none)) w4
     repeat walk_at "f"
     exact ⟨rfl, _, D, f2, f3, f4, f5, w5, HLe.new u1, hset_same _ _ _⟩
   clear w3 f2 f3 f4 f5 f6 hxch
   rintro L4 H4 ⟨Hd4, rl', f2, f3, f4, f5, w4, k6, grl⟩
   have kH4 : HLe H Hd4 := kH3.trans k6
   have gl4 := k6 _ _ gl3
   have gxi4 := k6 _ _ gxi3
   with_reducible refine SS.seq (S848 rx t i ((n, AObj.cell (some (.ref recL))) :: zipD ds (es'.set i (eDict ua rl' (delayV row) .none))) Hd4) (fun _ hPs => ?_) ?_
   ·repeat walk_at "f"
    refine ⟨Nat.le_of_ble_eq_true tt, fun b hb => ?_⟩
    have w5 := w4.alloc (o := .list []) hb
    have u1 := w4.back hb
    refine CmpW.neNil (w5.le _ _ (hset_old u1 (kH4 _ _ gd))) (w5.le _ _ (hset_same _ _ _)) ?_
    rw [List.isEmpty_map]
    cases hld : row.delays.getLast? with
    | none =>
     have e0 : row.delays = [] := List.getLast?_eq_none_iff.mp hld
     have ed : delayV row = .none := by unfold delayV; rw [hld]
     repeat walk_at "f"
     rw [e0, show (![].isEmpty (α := Int)) = false from rfl, if_neg (by decide)]
     repeat walk_at "f"
     rw [ed]
     exact ⟨rfl, _, f2, f3, f5, w5, HLe.new u1⟩
    | some dv =>
     have hne : row.delays.isEmpty = false := by cases hq : row.delays with | nil => rw [hq] at hld; cases hld | cons => rfl
     have ed : delayV row = .int dv := by unfold delayV; rw [hld]
     repeat walk_at "f"
     rw [hne, show (!false) = true from rfl, if_pos rfl]
     repeat walk_at "f"
     refine EW.usub ?_
     repeat walk_at "f"
     refine ⟨1, rfl, ?_⟩
     refine SbW.listLast (x := .int dv) (w5.le _ _ (hset_old u1 (kH4 _ _ gd))) (by rw [List.getLast?_map, hld, Option.map_some]) (by rw [List.length_map]; exact leD c6 tt) ?_
     repeat walk_at "f"
     refine EW.cell (by with_unfolding_all rfl) (by with_unfolding_all rfl) (cellA w5) ?_
     repeat walk_at "f"
     refine SbW.list (w5.le _ _ (hset_old u1 gl4)) (Int.natCast_nonneg _) (by exact hxg) hxlen ?_
     refine SetW.own (w5.le _ _ (hset_old u1 gxi4)) (w5.get _ (List.mem_of_getElem? (hidx _))) (set82_dl _) (by exact Nat.le_of_ble_eq_true tt) ?_
     have w6 := hput (e' := putA (Str.ofString "delay") (.int dv) (eDict ua rl' .none .none)) w5
     repeat walk_at "f"
     rw [ed]
     exact ⟨rfl, _, f2, f3, f5, w6, HLe.new u1⟩
   clear w4 f2 f3 f4 f5
   rintro L5 H5 ⟨Hd5, f2, f3, f5, w5, k7⟩
   have kH5 : HLe H Hd5 := kH4.trans k7
   have gl5 := k7 _ _ gl4
   have gxi5 := k7 _ _ gxi4
   have k35 : HLe Hd3 Hd5 := k6.trans k7
   repeat walk_at "f"
   refine ⟨Nat.le_of_ble_eq_true tt, fun b hb => ?_⟩
   have w6 := w5.alloc (o := .list []) hb
   have u1 := w5.back hb
   refine CmpW.neNil (w6.le _ _ (hset_old u1 (kH5 _ _ gt))) (w6.le _ _ (hset_same _ _ _)) ?_
   rw [pt.isEmpty]
   have fin2 : ∀ {L7 H7 rv Hd7}, L7 (o "rows") = some (.ref rx) → Own Hd7 ((n, AObj.cell (some (.ref recL))) :: zipD ds (es'.set i (eDict ua rl' (delayV row) rv))) H7 → HLe Hd5 Hd7 → RateV Hd7 rv row.rates → N848 n rx H rows xs ds recL Hd (i + 1) L7 H7 := fun q1 q2 q3 q4 =>
    fin q1 q2 (k5.trans (k35.trans q3)) ⟨ua, rl', delayV row, _, rfl, q3 _ _ (k35 _ _ gua), q3 _ _ (k7 _ _ grl), rfl, q4⟩
   cases hlr : row.rates.getLast? with
   | none =>
    have e0 : row.rates = [] := List.getLast?_eq_none_iff.mp hlr
    repeat walk_at "f"
    rw [e0, show (![].isEmpty (α := Int × Int)) = false from rfl, if_neg (by decide)]
    repeat walk_at "f"
    exact ⟨trivial, fin2 f2 w6 (HLe.new u1) (by unfold RateV; rw [hlr])⟩
   | some pr =>
    have hne : row.rates.isEmpty = false := by cases hq : row.rates with | nil => rw [hq] at hlr; cases hlr | cons => rfl
    repeat walk_at "f"
    rw [hne, show (!false) = true from rfl, if_pos rfl]
    obtain ⟨vr, hvr, ar, rfl, gar⟩ := pt.getLast hlr
    repeat walk_at "f"
    refine (CallW.own w6 (newEntry (by first | exact room_le hroom hrm tt | exact room_le hroom hr tt | (show 2 ≤ d.room; omega)))).mono fun v H7 h7 => ?_
    obtain ⟨Hd7, ⟨xr, dr, uar, rlr, rfl, k8, gxr, gdr, hdr⟩, w7⟩ := h7
    have k58 : HLe Hd5 Hd7 := (HLe.new u1).trans k8
    have hdr5 : Hd5 dr = none := by
     cases q : Hd5 dr with
     | none => rfl
     | some z => rw [hset_old u1 q] at hdr; cases hdr
    repeat walk_at "f"
    refine EW.cell (by with_unfolding_all rfl) (by with_unfolding_all rfl) (cellA w7) ?_
    repeat walk_at "f"
    refine SbW.list (w7.le _ _ (k58 _ _ gl5)) (Int.natCast_nonneg _) (by exact hxg) hxlen ?_
    refine SetW.own (w7.le _ _ (k58 _ _ gxi5)) (w7.get _ (List.mem_of_getElem? (hidx _))) (set82_rr _) (by exact Nat.le_of_ble_eq_true tt) ?_
    have w8 : Own Hd7 ((n, AObj.cell (some (.ref recL))) :: zipD ds (es'.set i (eDict ua rl' (delayV row) (.ref xr)))) _ := hput (e' := putA (Str.ofString "req_rate") (.ref xr) (eDict ua rl' (delayV row) .none)) w7
    generalize hset H7 di (.dict (putA (Str.ofString "req_rate") (.ref xr) (eDict ua rl' (delayV row) .none))) = H8 at w8
    have w9 := w8.take gdr
    have nxd : xr ≠ dr := fun q => by rw [q, gdr] at gxr; cases gxr
    have gxr9 : hdel Hd7 dr xr = some (.inst 82 dr) := (hdel_ne nxd).trans gxr
    have k9 : HLe Hd5 (hdel Hd7 dr) := HLe.del hdr5 k58
    have gdi : ∀ {Hd3 H3 e x}, Own Hd3 ((dr, x) :: (n, AObj.cell (some (.ref recL))) :: zipD ds (es'.set i e)) H3 → H3 di = some (.dict e) := fun w => w.get _ (.tail _ (List.mem_of_getElem? (hidx _)))
    repeat walk_at "f"
    refine EW.usub ?_
    repeat walk_at "f"
    refine ⟨1, rfl, ?_⟩
    refine SbW.listLast (w9.le _ _ (k9 _ _ (kH5 _ _ gt))) hvr (by rw [c2]; exact leD c5 tt) ?_
    repeat walk_at "f"
    refine SbW.tup (x := .int pr.1) (w9.le _ _ (k9 _ _ (kH5 _ _ gar))) (by decide) rfl (by exact Nat.le_of_ble_eq_true tt) ?_
    repeat walk_at "f"
    refine EW.cell (by with_unfolding_all rfl) (by with_unfolding_all rfl) (w9.get _ (.tail _ (.head _))) ?_
    repeat walk_at "f"
    refine SbW.list (w9.le _ _ (k9 _ _ gl5)) (Int.natCast_nonneg _) (by exact hxg) hxlen ?_
    refine GetW.own (a := .ref xr) (w9.le _ _ (k9 _ _ gxi5)) (gdi w9) rfl (own82_rr _) ?_
    refine SetW.own (w9.le _ _ gxr9) (w9.get _ (.head _)) (set82_rq _) (by exact Nat.le_of_ble_eq_true tt) ?_
    have w10 := w9.put0 (y := .dict (putA (Str.ofString "requests") (.int pr.1) (eDict uar rlr .none .none)))
    generalize hset H8 dr (.dict (putA (Str.ofString "requests") (.int pr.1) (eDict uar rlr .none .none))) = H10 at w10
    repeat walk_at "f"
    refine EW.usub ?_
    repeat walk_at "f"
    refine ⟨1, rfl, ?_⟩
    refine SbW.listLast (w10.le _ _ (k9 _ _ (kH5 _ _ gt))) hvr (by rw [c2]; exact leD c5 tt) ?_
    repeat walk_at "f"
    refine SbW.tup (x := .int pr.2) (w10.le _ _ (k9 _ _ (kH5 _ _ gar))) (by decide) rfl (by exact Nat.le_of_ble_eq_true tt) ?_
    repeat walk_at "f"
    refine EW.cell (by with_unfolding_all rfl) (by with_unfolding_all rfl) (w10.get _ (.tail _ (.head _))) ?_
    repeat walk_at "f"
    refine SbW.list (w10.le _ _ (k9 _ _ gl5)) (Int.natCast_nonneg _) (by exact hxg) hxlen ?_
    refine GetW.own (a := .ref xr) (w10.le _ _ (k9 _ _ gxi5)) (gdi w10) rfl (own82_rr _) ?_
    refine SetW.own (w10.le _ _ gxr9) (w10.get _ (.head _)) (set82_sc _) (Nat.le_trans (Nat.le_of_eq (rfl : _ = 5)) (by decide)) ?_
    have w11 := w10.put0 (y := .dict (putA (Str.ofString "seconds") (.int pr.2) (putA (Str.ofString "requests") (.int pr.1) (eDict uar rlr .none .none))))
    repeat walk_at "f"
    refine ⟨trivial, fin2 f2 w11.settle (HLe.put (hdel_self _ _) k9) ?_⟩
    unfold RateV
    rw [hlr]
    exact ⟨xr, dr, _, rfl, (hset_ne nxd).trans gxr9, hset_same _ _ _, rfl, rfl⟩
  ·intro L2 H2 h
   rw [upTo_len, hrl.length] at h
   repeat walk_at "f"
   exact ⟨rfl, h⟩
 intro L2 H2 hI
 obtain ⟨es', Hd', ⟨f1, w, k2, gl2, ha2, _, hl3⟩, k3, hdone, htodo⟩ := hI
 repeat walk_at "f"
 refine EW.cell (by with_unfolding_all rfl) (by with_unfolding_all rfl) (w.get _ (.head _)) ?_
 repeat walk_at "f"
 rw [← hQ]
 refine ⟨k2.trans w.le, recL, xs, rfl, w.le _ _ gl2, All2.ofIdx hxl fun j x r hx hr => ?_⟩
 obtain ⟨dj, hdj, hxd⟩ := ha2.getL hx
 obtain ⟨ej, hej⟩ : ∃ e, es'[j]? = some e := ⟨_, List.getElem?_eq_getElem (by rw [hl3]; exact (List.getElem?_eq_some_iff.mp hr).1)⟩
 exact ⟨dj, ej, w.le _ _ hxd, w.get _ (.tail _ (List.mem_of_getElem? (zipD_get hdj hej))), (hdone j ej r hej hr (List.getElem?_eq_some_iff.mp hr).1).mono w.le⟩
end
end
end
section
noncomputable section
theorem slot_map_iter : Slot "map" "__iter__" "map.__iter__" :=
 .of (owner := "map") (n := "__iter__") (by rw [typeLookup_type, builtinLookup_eq_fast]; kernel_rfl) (by decide +kernel) (by decide +kernel) (by decide +kernel) (.inl (by decide +kernel)) (by rw [isSubtype_type]; kernel_rfl)
theorem slot_map_next : Slot "map" "__next__" "map.__next__" :=
 .of (owner := "map") (n := "__next__") (by rw [typeLookup_type, builtinLookup_eq_fast]; kernel_rfl) (by decide +kernel) (by decide +kernel) (by decide +kernel) (.inl (by decide +kernel)) (by rw [isSubtype_type]; kernel_rfl)
theorem slot_map_init : Slot "map" "__init__" "object.__init__" :=
 .of (owner := "object") (n := "__init__") (by rw [typeLookup_type, builtinLookup_eq_fast]; kernel_rfl) (by decide +kernel) (by decide +kernel) (by decide +kernel) (.inl (by decide +kernel)) (by rw [isSubtype_type]; kernel_rfl)
theorem owner_map : Manifest.owners.lookup (String.ofList ['p', 'a', 'm'].reverse) = some Manifest.sig_map := by kernel_rfl
theorem args_map_iter (a : Value) : argsOk "map.__iter__" ⟨[a], []⟩ := by
 unfold argsOk; rw [signature?_of (id := "map.__iter__") (n := ['_', '_', 'r', 'e', 't', 'i', '_', '_']) (o := ['p', 'a', 'm']) (by kernel_rfl) owner_map]; kernel_rfl
theorem args_map_next (a : Value) : argsOk "map.__next__" ⟨[a], []⟩ := by
 unfold argsOk; rw [signature?_of (id := "map.__next__") (n := ['_', '_', 't', 'x', 'e', 'n', '_', '_']) (o := ['p', 'a', 'm']) (by kernel_rfl) owner_map]; kernel_rfl
theorem entry_map_next : entryFor table "map.__next__" = some Builtin.«map.__next__» := entryFor_of_tree (by kernel_rfl)
theorem entry_map_new : entryFor table "map.__new__" = some Builtin.«map.__new__» := entryFor_of_tree (by kernel_rfl)
theorem entry_map_iter : entryFor table "map.__iter__" = some Builtin.«dict_keyiterator.__iter__» :=
 entryFor_alias (id' := "dict_keyiterator.__iter__") (by kernel_rfl) (by first | rfl | decide +kernel | (unfold String.splitOn; simp +decide [String.splitOnAux])) (by decide +kernel) (by kernel_rfl)
theorem mro_map : mroOf (.type "map") = pure [.type "map", .type "object"] := by rw [mroOf_type]; kernel_rfl
theorem lookup_map_new : typeLookup (.type "map") "__new__" = pure (some (.builtin "map.__new__")) := by rw [typeLookup_type, builtinLookup_eq_fast]; kernel_rfl
theorem called_map : TypeCalled "map" "map.__new__" "object.__init__" :=
 ⟨by decide +kernel, by decide +kernel, ⟨_, _, mro_map⟩, madeBy_type mro_map lookup_map_new (by decide +kernel), by decide +kernel, by rw [isSubtype_type]; kernel_rfl, slot_map_init⟩
theorem typeCall_map_2 (a b : Value) : checkTypeCall "map" ⟨[a, b], []⟩ = pure () := by kernel_rfl
theorem newCall_map_2 (a b : Value) : checkBuiltinCall "map.__new__" ⟨[.type "map", a, b], []⟩ = pure () := by kernel_rfl
theorem sub_map : isSubtype (.type "map") (.type "map") = pure true := by rw [isSubtype_type]; kernel_rfl
theorem nolen_map : typeLookup (.type "map") "__len__" = pure none := by rw [typeLookup_type, builtinLookup_eq_fast]; kernel_rfl
theorem nohint_map : typeLookup (.type "map") "__length_hint__" = pure none := by rw [typeLookup_type, builtinLookup_eq_fast]; kernel_rfl
noncomputable def liO (l : Addr) (i : Nat) : Obj := { cls := .type "list_iterator", data := .fields #[.ref l, .int i 0] }
noncomputable def oneO (a : Addr) : Obj := { cls := .type "tuple", data := .seq #[.ref a] }
noncomputable def mapO (t : Addr) (f : Value) : Obj := { cls := .type "map", data := .fields #[.ref t, f] }
theorem meets_map_new (f : Value) (l : Addr) (xs : Array Value) :
  Meets (Builtin.«map.__new__» ⟨[.type "map", f, .ref l], []⟩) (fun _ R s => s.heap.IsList l xs ∧
   R (.ok (.ret (.ref ((s.heap.push (liO l 0)).push (oneO s.heap.objs.size)).objs.size))) { s with heap := ((s.heap.push (liO l 0)).push (oneO s.heap.objs.size)).push (mapO (s.heap.push (liO l 0)).objs.size f) }) :=
 .of_wp fun prog w A R s h => by
  obtain ⟨hp, g, d, tk, os⟩ := s; obtain ⟨hl1, h⟩ := h
  have hsub := sub_map
  have hL1 : Heap.IsList (Shared.heap ⟨hp, g, d, tk, os⟩) l xs := hl1
  wp_walk using wpAny_pyIter_list hL1
  exact ⟨_, rfl, h⟩
section
variable {c : Cx} {L : AL} {H : AH} {R : List (Addr × Obj)} {s : Shared} {Q : AV → AH → Prop}
noncomputable def mapH (H : AH) (it tp mp l : Addr) (i : Nat) (f : Value) : AH := hset (hset (hset H it (.raw (liO l i))) tp (.raw (oneO it))) mp (.raw (mapO tp f))
theorem CallW.map {l : Addr} {xs : List AV} {fn : String} (hl : H l = some (.list xs)) (h : ∀ it tp mp, H it = none → H tp = none → H mp = none → it ≠ tp → it ≠ mp → tp ≠ mp → Q (.ref mp) (mapH H it tp mp l 0 (.type fn))) : CallW c (.type "map") [.typ fn, .ref l] L H Q := by
 rintro _ (_ | ⟨rfl, _ | ⟨rfl, _ | _⟩⟩) R s S
 obtain ⟨vs, hv, hL⟩ := isL S hl
 refine callType_new called_map (by decide) (typeCall_map_2 _ _) (newCall_map_2 _ _) (fun obj => F.args_object_init_3 obj _ _) entry_map_new (meets_map_new (.type fn) l vs.toArray) ⟨hL, ?_⟩
 obtain ⟨n1, S1⟩ := S.push (ao := .raw (liO l 0)) (o := liO l 0) ⟨rfl, rfl⟩
 obtain ⟨n2, S2⟩ := S1.push (ao := .raw (oneO s.heap.objs.size)) (o := oneO s.heap.objs.size) ⟨rfl, rfl⟩
 obtain ⟨n3, S3⟩ := S2.push (ao := .raw (mapO (s.heap.push (liO l 0)).objs.size (.type fn))) (o := mapO (s.heap.push (liO l 0)).objs.size (.type fn)) ⟨rfl, rfl⟩
 have e12 : s.heap.objs.size ≠ (s.heap.push (liO l 0)).objs.size := fun q => by rw [← q, hset_same] at n2; cases n2
 have e23 : (s.heap.push (liO l 0)).objs.size ≠ ((s.heap.push (liO l 0)).push (oneO s.heap.objs.size)).objs.size := fun q => by dsimp only at n3; rw [← q, hset_same] at n3; cases n3
 have e13 : s.heap.objs.size ≠ ((s.heap.push (liO l 0)).push (oneO s.heap.objs.size)).objs.size := fun q => by dsimp only at n3; rw [← q, hset_ne e12, hset_same] at n3; cases n3
 dsimp only at n2 n3
 exact ⟨⟨_, Heap.get?_push_size _ rfl, rfl⟩, .ref _, _, rfl, S3, h _ _ _ n1 (hset_none n2) (hset_none (hset_none n3)) e12 e13 e23⟩
inductive LiAt (H : AH) (it l : Addr) (i : Nat) : Prop
 | mk' (o : Obj) (g : H it = some (.raw o)) (hc : o.cls = .type "list_iterator") (hd : o.data = .fields #[.ref l, .int i 0])
theorem wp_forOne {M : Model} {A : Around} {E : Value → Shared → Prop} {s : Shared} {α : Type} {x : Value} {b : α} {f : Value → α → Sem (ForInStep α)} {Q : α → Shared → Prop} (h : wpAny M A (f x b) (fun r s' => match r with | .yield b => Q b s' | .done b => Q b s') E s) : wpAny M A (forIn #[x] b f) Q E s := by
 have e : (forIn #[x] b f : Sem α) = forIn [x] b f := by simp
 rw [e, List.forIn_cons]
 refine wpAny_bind (wpAny_mono h (fun r s' hr => ?_) fun _ _ z => z)
 cases r with
 | yield b => exact wpAny_pure hr
 | done b => exact wpAny_pure hr
noncomputable def ORelv : Option AV → Option Value → Prop
 | none, r => r = none
 | some a, r => ∃ v, r = some v ∧ VRel a v
inductive NQ (c : Cx) (L : AL) (R : List (Addr × Obj)) (Q : Option AV → AH → Prop) (r : Option Value) (s' : Shared) : Prop
 | mk' (oa : Option AV) (H' : AH) (r : ORelv oa r) (S : Sim c L H' R s') (q : Q oa H')
noncomputable def NxW (c : Cx) (it : Addr) (L : AL) (H : AH) (Q : Option AV → AH → Prop) : Prop := ∀ R s, Sim c L H R s → wpAny (model prg c.d.w) c.d.A (pyNext (.ref it)) (NQ c L R Q) nE s
theorem NxW.mapItem {it tp mp l : Addr} {i : Nat} {fn : String} {xs : List AV} {a : AV} {P : Option AV → AH → Prop} (hroom : 2 ≤ c.d.room) (h1 : LiAt H it l i) (h2 : H tp = some (.raw (oneO it))) (h3 : H mp = some (.raw (mapO tp (.type fn)))) (hl : H l = some (.list xs)) (hx : xs[i]? = some a)
  (h : ∀ A, Near c.d.A A → ∀ o, o.cls = .type "list_iterator" → o.data = .fields #[.ref l, .int ((i + 1 : Nat) : Int) 0] → CallW (c.to A) (.type fn) [a] L (hset H it (.raw o)) fun v H' => P (some v) H') : NxW c mp L H P := by
 intro R s S
 obtain ⟨_, g3, _, _, rfl, _⟩ := S.hp _ _ h3
 have hT : s.TypeIs (.ref mp) "map" := ⟨_, g3, rfl⟩
 unfold pyNext
 refine wpAny_bind (wpAny_attempt (wpAny_callSpecial?_slot (name := Str.ofString "__next__") hT slot_map_next (wpAny_call_entry slot_map_next hT entry_map_next ?_ (args_map_next _))))
 obtain ⟨oi, h1, ci, di⟩ := h1
 obtain ⟨_, g1, _, _, rfl, _⟩ := S.hp _ _ h1
 obtain ⟨_, g2, _, _, rfl, _⟩ := S.hp _ _ h2
 obtain ⟨vs, hv, hL⟩ := isL S hl
 obtain ⟨v, hv1, hv2⟩ := hv.get hx
 show wpAny _ _ (field (.ref mp) 0 >>= _) _ _ _
 refine wpAny_bind (wpAny_field g3 rfl (x := .ref tp) rfl ?_)
 refine wpAny_bind (wpAny_seqItems g2 rfl ?_)
 refine wpAny_bind (wp_forOne (wpAny_bind (wpAny_holding ?_)))
 refine wpAny_nextOf_list_item ⟨_, g1, ci, di⟩ hL (by simpa using hv1) fun h' hit hs => wpAny_pure ?_
 obtain ⟨o', g1', hc', hd'⟩ := hit
 have S1 : Sim c L (hset H it (.raw o')) R { s with heap := h' } := S.put (tk := s.toks) h1 (fun b ob hb e => (hs.2 b hb).trans e) g1' ⟨rfl, Obj.isFreed_of_fields hd'⟩
 have nmi : mp ≠ it := fun q => by rw [q, h1] at h3; cases h3; simp [mapO] at ci
 have g3' : h'.get? mp = some (mapO tp (.type fn)) := (hs.2 _ nmi).trans g3
 dsimp only
 refine wpAny_bind (wpAny_field g3' rfl (x := .type fn) rfl ?_)
 refine wpAny_bind (wpAny_holding ?_)
 refine (h _ (Near.in1 _) o' hc' hd' [v] (.cons hv2 .nil)).run (S1.to (Near.in1 _) (by omega)) fun w aw H2 s2 hw S2 q => ?_
 refine wpAny_bind (wpAny_letGo (wpAny_pure ⟨w, rfl, wpAny_pure ⟨some aw, H2, ⟨w, rfl, hw⟩, S1.off S2, q⟩⟩))
theorem NxW.mapEnd {it tp mp l : Addr} {i : Nat} {fn : String} {xs : List AV} {P : Option AV → AH → Prop} (h1 : LiAt H it l i) (h2 : H tp = some (.raw (oneO it))) (h3 : H mp = some (.raw (mapO tp (.type fn)))) (hl : H l = some (.list xs)) (hx : xs[i]? = none)
  (h : P none (hdel H it)) : NxW c mp L H P := by
 intro R s S
 obtain ⟨_, g3, _, _, rfl, _⟩ := S.hp _ _ h3
 have hT : s.TypeIs (.ref mp) "map" := ⟨_, g3, rfl⟩
 unfold pyNext
 refine wpAny_bind (wpAny_attempt (wpAny_callSpecial?_slot (name := Str.ofString "__next__") hT slot_map_next (wpAny_call_entry slot_map_next hT entry_map_next ?_ (args_map_next _))))
 obtain ⟨oi, h1, ci, di⟩ := h1
 obtain ⟨_, g1, _, _, rfl, _⟩ := S.hp _ _ h1
 obtain ⟨_, g2, _, _, rfl, _⟩ := S.hp _ _ h2
 obtain ⟨vs, hv, hL⟩ := isL S hl
 show wpAny _ _ (field (.ref mp) 0 >>= _) _ _ _
 refine wpAny_bind (wpAny_field g3 rfl (x := .ref tp) rfl ?_)
 refine wpAny_bind (wpAny_seqItems g2 rfl ?_)
 refine wpAny_bind (wp_forOne (wpAny_bind (wpAny_holding ?_)))
 refine wpAny_nextOf_list_end S.ok.handled ⟨_, g1, ci, di⟩ hL (by have := hv.length; simp at hx ⊢; omega) fun h' e hs he => ?_
 obtain ⟨oe, hoe, hce⟩ := he
 refine wpAny_bind (wpAny_isInstance (T := "StopIteration") (b := true) ⟨oe, hoe, hce⟩ isSubtype_stop (wpAny_pure ?_))
 obtain ⟨o, hr, g, hR, S1⟩ := S.toR h1
 have S2 := S1.endR (tk := s.toks) hR hs
 refine ⟨none, _, rfl, S2, h⟩
inductive NQ1 (c : Cx) (L : AL) (R : List (Addr × Obj)) (Q : AV → AH → Prop) (r : Option Value) (s' : Shared) : Prop
 | mk' (v : Value) (a : AV) (H' : AH) (e : r = some v) (hv : VRel a v) (S : Sim c L H' R s') (q : Q a H')
noncomputable def NxE (c : Cx) (it : Addr) (L : AL) (H : AH) (Q : AV → AH → Prop) (En : List (Addr × Obj) → Shared → Prop) : Prop :=
 ∀ R s, Sim c L H R s → wpAny (model prg c.d.w) c.d.A (pyNext (.ref it)) (fun r s' => (r = none ∧ En R s') ∨ NQ1 c L R Q r s') nE s
theorem NxW.toE {it : Addr} {P : Option AV → AH → Prop} (h : NxW c it L H P) : NxE c it L H (fun a H' => P (some a) H') fun R s' => ∃ H', Sim c L H' R s' ∧ P none H' := fun R s S =>
 wpAny_mono (h R s S) (fun r s' zz => by
  obtain ⟨oa, H', hr, S', q⟩ := zz
  cases oa with
  | none => exact .inl ⟨hr, H', S', q⟩
  | some a => obtain ⟨v, e, hv⟩ := hr; exact .inr ⟨v, a, H', e, hv, S', q⟩) fun _ _ x => x.elim
theorem extLoop {A0 : Around} (hA : A0.in1 = c.d.A) {D it : Addr} {res : Value} {RR : Result → Shared → Prop} (I : Nat → List AV → AH → Prop) (En : List AV → List (Addr × Obj) → Shared → Prop) (hR : ∀ p ∈ R, p.1 ≠ D)
  (turn : ∀ n ys H, I n ys H → ys.length ≤ 900000 ∧ NxE c it L H (fun a H' => ∃ m, m < n ∧ I m (ys ++ [a]) H') (En ys))
  (fin : ∀ s' ys vs k, VRels ys vs → En ys ((D, listOf vs.toArray k) :: R) s' → RR (.ok (.ret res)) s') :
  ∀ (n : Nat) (ys : List AV) (H : AH) (vs : List Value) (k : Nat) (s : Shared), I n ys H → VRels ys vs → Sim c L H ((D, listOf vs.toArray k) :: R) s → codeAny (model prg c.d.w) A0 (.builtin "list.extend.loop" ⟨[.ref D, .ref it, res], []⟩) RR s := by
 intro n
 induction n using Nat.strongRecOn with
 | _ n ih =>
  intro ys H vs k s hI hv S
  obtain ⟨hlen, hn⟩ := turn n ys H hI
  have e := hv.length
  refine codeAny_builtin PySem.F.entry_extend_loop ?_
  rw [Around.under_plainId PySem.F.plain_extend_loop _, hA]
  show wpAny _ _ (pyNext (.ref it) >>= _) _ _ s
  refine wpAny_bind (wpAny_mono (hn _ _ S) (fun r s' hr => ?_) fun _ _ x => x.elim)
  rcases hr with ⟨rfl, q⟩ | ⟨v, a, H', rfl, hva, S', m, hm, hI'⟩
  ·exact wpAny_pure (fin s' ys vs k hv q)
  ·have g := (S'.nw _ (.head _)).1
   show wpAny _ _ (updateSeq D (·.push v) >>= _) _ _ _
   obtain ⟨k', e'⟩ := mapSeq_list (·.push v) vs.toArray k
   have epush : vs.toArray.push v = (vs ++ [v]).toArray := by simp
   rw [epush] at e'
   have hz : vs.toArray.size ≤ sizeLine := by rw [List.size_toArray, ← e]; exact Nat.le_trans hlen (by decide)
   refine wpAny_bind (wpAny_updateSeq g rfl (wpAny_pure ⟨plainId_quiet PySem.F.plain_extend_loop _, ih m hm (ys ++ [a]) H' (vs ++ [v]) k' _ hI' (hv.append (.cons hva .nil)) ?_⟩) hz (by rw [Array.size_push]; exact Nat.succ_le_succ hz))
   exact S'.setR (tk := s'.toks) hR (Heap.SameBut.update ..) (by rw [Heap.get?_update_self _ g (by rw [e']; rfl), e'])
structure ItTy (c : Cx) (it : Addr) (T : Value) (H : AH) (L : AL) : Prop where
 ty : ∀ {R s} {E : Value → Shared → Prop} {Q : Value → Shared → Prop}, Sim c L H R s → Q T s → wpAny (model prg c.d.w) c.d.A (typeOf (.ref it)) Q E s
 iter : ∀ {R s} {E : Value → Shared → Prop} {Q : Value → Shared → Prop}, Sim c L H R s → (∀ s', Sim c L H R s' → Q (.ref it) s') → wpAny (model prg c.d.w) c.d.A (pyIter (.ref it)) Q E s
 nolen : ∀ {R s} {E : Value → Shared → Prop} {Q : Option Value → Shared → Prop}, Sim c L H R s → Q none s → wpAny (model prg c.d.w) c.d.A (specialOf (.ref it) (Str.ofString "__len__")) Q E s
 nohint : ∀ {R s} {E : Value → Shared → Prop} {Q : Option Value → Shared → Prop}, Sim c L H R s → Q none s → wpAny (model prg c.d.w) c.d.A (specialOf (.ref it) (Str.ofString "__length_hint__")) Q E s
 nl : (T == .type "list") = false
 nt : (T == .type "tuple") = false
theorem extWith {A0 : Around} (hA : A0.in1 = c.d.A) {D it : Addr} {T res : Value} {RR : Result → Shared → Prop} (ht : ItTy c it T H L) (hDit : D ≠ it) (I : Nat → List AV → AH → Prop) (En : List AV → List (Addr × Obj) → Shared → Prop) (hR : ∀ p ∈ R, p.1 ≠ D)
  (turn : ∀ n ys H, I n ys H → ys.length ≤ 900000 ∧ NxE c it L H (fun a H' => ∃ m, m < n ∧ I m (ys ++ [a]) H') (En ys))
  (fin : ∀ s' ys vs k, VRels ys vs → En ys ((D, listOf vs.toArray k) :: R) s' → RR (.ok (.ret res)) s')
  {n : Nat} {ys : List AV} {vs : List Value} {k : Nat} (hI : I n ys H) (hv : VRels ys vs) (S : Sim c L H ((D, listOf vs.toArray k) :: R) s) {E : Value → Shared → Prop} :
  wpAny (model prg c.d.w) c.d.A (Builtin.List.listExtendWith (.ref D) (.ref it) res)
   (fun fin s' => match fin with | .done f => RR (.ok f) s' | .again c' => c'.quiet = true ∧ codeAny (model prg c.d.w) A0 c' RR s') E s := by
 unfold Builtin.List.listExtendWith
 refine wpAny_bind (ht.ty S ?_)
 have h1 : Builtin.List.listSameRef (.ref D) (.ref it) = false := by simp [Builtin.List.listSameRef, hDit]
 simp only [h1, ht.nl, ht.nt, Bool.or_false, Bool.false_eq_true, if_false]
 refine wpAny_bind (ht.iter S fun s1 S1 => ?_)
 refine wpAny_bind (wpAny_holding ?_)
 unfold Builtin.List.listLengthHint
 refine wpAny_bind (ht.nolen S1 ?_)
 show wpAny _ _ (specialOf (Value.ref it) (Str.ofString "__length_hint__") >>= _) _ _ _
 refine wpAny_bind (ht.nohint S1 ?_)
 refine wpAny_pure ?_
 show wpAny _ _ (rule "list.extend.makes-room" >>= fun _ => Builtin.List.listTouch (.ref D) >>= fun _ => again (.builtin "list.extend.loop" ⟨[.ref D, .ref it, res], []⟩)) _ _ _
 refine wpAny_bind (wpAny_rule ?_)
 have e := hv.length
 have hlen := (turn n ys H hI).1
 have hz : vs.toArray.size ≤ sizeLine := by rw [List.size_toArray, ← e]; exact Nat.le_trans hlen (by decide)
 have g := (S1.nw _ (.head _)).1
 obtain ⟨k1, e1⟩ := mapSeq_list (·.push Value.none) vs.toArray k
 have epush : vs.toArray.push Value.none = (vs ++ [Value.none]).toArray := by simp
 rw [epush] at e1
 obtain ⟨k2, e2⟩ := mapSeq_list (·.pop) (vs ++ [Value.none]).toArray k1
 have epop : (vs ++ [Value.none]).toArray.pop = vs.toArray := by simp
 rw [epop] at e2
 have S2 : Sim c L H ((D, listOf (vs ++ [Value.none]).toArray k1) :: R) { s1 with heap := s1.heap.update D (Obj.mapSeq (·.push Value.none)) } := S1.setR (tk := s1.toks) hR (Heap.SameBut.update ..) (by rw [Heap.get?_update_self _ g (by rw [e1]; rfl), e1])
 have g2 := (S2.nw _ (.head _)).1
 have S3 : Sim c L H ((D, listOf vs.toArray k2) :: R) { s1 with heap := (s1.heap.update D (Obj.mapSeq (·.push Value.none))).update D (Obj.mapSeq (·.pop)) } := S2.setR (tk := s1.toks) hR (Heap.SameBut.update ..) (by rw [Heap.get?_update_self _ g2 (by rw [e2]; rfl), e2])
 refine wpAny_bind ?_
 show wpAny _ _ (updateSeq D (·.push Value.none) >>= fun _ => updateSeq D (·.pop)) _ _ _
 refine wpAny_bind (wpAny_updateSeq g rfl ?_ hz (by rw [Array.size_push]; exact Nat.succ_le_succ hz))
 refine wpAny_updateSeq g2 rfl ?_ (by rw [List.size_toArray, List.length_append, ← e]; exact Nat.le_trans (Nat.add_le_add_right hlen 1) (by decide)) (by rw [epop]; exact Nat.le_succ_of_le hz)
 exact wpAny_pure ⟨plainId_quiet PySem.F.plain_extend_loop _, extLoop hA I En hR turn fin n ys H vs k2 _ hI hv S3⟩
theorem CallW.extend {D it : Addr} {T : Value} {pre : List AV} (hroom : 2 ≤ c.d.room) (hD : H D = some (.list pre)) (hDit : D ≠ it) (I : Nat → List AV → AH → Prop) (Fin : List AV → AH → Prop)
  (ht : ∀ A, Near c.d.A A → ItTy (c.to A) it T (hdel H D) L)
  (turn : ∀ A, Near c.d.A A → ∀ n ys H, I n ys H → ys.length ≤ 900000 ∧ NxW (c.to A) it L H fun oa H' => match oa with | none => Fin ys H' | some a => ∃ m, m < n ∧ I m (ys ++ [a]) H')
  {n : Nat} (hI : I n pre (hdel H D)) (fin : ∀ ys H', Fin ys H' → H' D = none → Q .none (hset H' D (.list ys))) : CallW c (.builtin "list.extend") [.ref D, .ref it] L H Q := by
 refine CallKW.toCall (CodeW.toKW ?_)
 rintro _ _ (_ | ⟨rfl, _ | ⟨rfl, _ | _⟩⟩) _ R s S
 obtain ⟨o, ⟨vs, k, rfl, hv⟩, g, hR, S1⟩ := S.toR hD
 have hl : s.heap.IsList D vs.toArray := ⟨_, g, rfl, _, rfl⟩
 have nr := Near.in1 c.d.A
 refine codeAny_call_builtin PySem.F.slot_list_extend.plain PySem.F.entry_list_extend (PySem.F.slot_list_extend.check _ _ _ _ _ _ _ _ hl.typeIs (PySem.F.args_list_extend_2 _ _) ?_)
 show wpAny _ _ (Builtin.List.listExtendWith (.ref D) (.ref it) .none) _ _ _
 refine extWith (c := c.to c.d.A.in1) (RR := RetP c L R Q) rfl (ht _ nr) hDit I (fun ys R s' => ∃ H', Sim (c.to c.d.A.in1) L H' R s' ∧ Fin ys H') hR (fun n ys H h => ⟨(turn _ nr n ys H h).1, (turn _ nr n ys H h).2.toE⟩) (fun s' ys vs' k' hv' z => ?_) hI hv (S1.to nr (by omega))
 obtain ⟨H', S', hf⟩ := z
 have S2 := S.off S'
 have hn : H' D = none := S2.sep _ (.head _)
 exact ⟨.none, _, rfl, S2.ofR (ao := .list ys) (.head _) ⟨vs', k', rfl, hv'⟩ fun p hp => ⟨.tail _ hp, hR p hp⟩, fin ys H' hf hn⟩
theorem ItTy.map {mp tp : Addr} {f : Value} {c : Cx} {H : AH} {L : AL} (h : H mp = some (.raw (mapO tp f))) : ItTy c mp (.type "map") H L := by
 have hT : ∀ {R s}, Sim c L H R s → s.TypeIs (.ref mp) "map" := fun S => by
  obtain ⟨_, g3, _, _, rfl, _⟩ := S.hp _ _ h
  exact ⟨_, g3, rfl⟩
 refine ⟨fun S q => wpAny_typeOf (hT S) q, fun S q => ?_, fun S q => wpAny_specialOf (hT S) nolen_map q, fun S q => wpAny_specialOf (hT S) nohint_map q, by decide, by decide⟩
 refine wpAny_pyIter_slot (hT S) slot_map_iter (wpAny_call_entry slot_map_iter (hT S) entry_map_iter ?_ (args_map_iter _))
 show wpAny _ _ (ret (.ref mp)) _ _ _
 exact wpAny_pure ⟨_, rfl, "map", _, hT S, slot_map_next.lookup, q _ S⟩
end
end
end
section
noncomputable section
section
variable {c : Cx} {L : AL} {H : AH} {R : List (Addr × Obj)} {s : Shared} {Q : AV → AH → Prop}
theorem CallW.strS {w : W} (h : Q (.str (S w)) H) : CallW c (.type "str") [.str (S w)] L H Q := by
 rintro _ (_ | ⟨⟨t, rfl⟩, _ | _⟩) R s S'
 exact P.str_of_str ⟨.str (S w), H, ⟨t, rfl⟩, S', h⟩
theorem CallW.strO {x C dx f : Addr} {es : List (Str × AV)} (hx : H x = some (.inst C dx)) (hd : H dx = some (.dict es)) (hs : findIn (KP c) (.ref C) "__str__" = some (some (.ref f))) (hf : isFn (KP c) (.ref f) = true) (hroom : 1 ≤ c.d.room)
  (h : ∀ A, Near c.d.A A → CallW (c.to A) (.ref f) [.ref x] L H fun v H' => ∃ w, v = .str w ∧ Q v H') : CallW c (.type "str") [.ref x] L H Q := by
 rintro _ (_ | ⟨rfl, _ | _⟩) R s S
 obtain ⟨ds, n, I, hr⟩ := S.inst hx hd
 refine kso_call (units_lt (k := 2) S.ok.units (by decide)) S.kin I hs hf ?_
 refine (h _ (Near.in2 _) [.ref x] (.cons (a := .ref x) rfl .nil)).run (S.to (Near.in2 _) hroom) fun v av H' s' hv S' hx0 => ?_
 obtain ⟨w, e, q⟩ := hx0
 subst e
 obtain ⟨t, rfl⟩ := hv
 exact ⟨.str w, H', ⟨t, rfl⟩, S.off S', q⟩
-- f-strings
inductive JoQ (c : Cx) (L : AL) (R : List (Addr × Obj)) (Q : W → AH → Prop) (out : Str) (s1 : Shared) : Prop
 | mk' (w : W) (H' : AH) (e : out = S w) (hz : w.length ≤ 1000000) (S : Sim c L H' R s1) (q : Q w H')
noncomputable def JoW (c : Cx) (es : List Expr) (acc : W) (L : AL) (H : AH) (Q : W → AH → Prop) : Prop := ∀ R s, Sim c L H R s →
 Joins (model prg c.d.w) c.d.A nE (evalEach es c.d.env) (S acc) (JoQ c L R Q) s
theorem JoW.nil {acc : W} {Q : W → AH → Prop} (hz : acc.length ≤ 1000000) (h : Q acc H) : JoW c [] acc L H Q := fun R s S' => ⟨acc, H, rfl, hz, S', h⟩
inductive JoC (c : Cx) (es : List Expr) (acc : W) (L : AL) (Q : W → AH → Prop) (a : AV) (H1 : AH) : Prop
 | mk' (w : W) (e : a = .str (S w)) (hz : acc.length + w.length ≤ 1000000) (k : JoW c es (acc ++ w) L H1 Q)
theorem JoW.cons {e : Expr} {es : List Expr} {acc : W} {Q : W → AH → Prop} (h : EW c e L H (JoC c es acc L Q))
  (he : evalEach (e :: es) c.d.env = eval e c.d.env :: evalEach es c.d.env := by with_unfolding_all rfl) : JoW c (e :: es) acc L H Q := fun R s S' => by
 show Joins _ _ _ (evalEach (e :: es) c.d.env) _ _ _
 rw [he]
 refine h.run S' fun v a H1 s1 hv S1 hx0 => ?_
 obtain ⟨w, ea, hz, q⟩ := hx0
 subst ea
 obtain ⟨t, rfl⟩ := hv
 refine ⟨S w, t, rfl, ?_, ?_⟩
 ·rw [S_append, S_length, List.length_append]; exact Nat.le_trans hz (by decide)
 ·rw [S_append]; exact q R s1 S1
theorem EW.joined {e1 e2 : Expr} {es : List Expr} {pos : Pos} (h : JoW c (e1 :: e2 :: es) [] L H fun w H1 => Q (.str (S w)) H1) : EW c (.JoinedStr (e1 :: e2 :: es) pos) L H Q := fun R s S' => by
 refine wpAny_JoinedStr ?_
 have mono : ∀ (l : List (Sem Value)) (acc : Str) (P P' : Str → Shared → Prop) (s : Shared), (∀ o s, P o s → P' o s) → Joins (model prg c.d.w) c.d.A nE l acc P s → Joins (model prg c.d.w) c.d.A nE l acc P' s := by
  intro l
  induction l with
  | nil => intro acc P P' s k h; exact k _ _ h
  | cons x l ih => intro acc P P' s k h; exact wpAny_mono h (fun v s1 z => by obtain ⟨y, t, e, hz, q⟩ := z; exact ⟨y, t, e, hz, ih _ _ _ _ k q⟩) fun _ _ x => x
 refine mono _ _ _ _ _ (fun out s1 z => ?_) (h R s S')
 obtain ⟨w, H', e, hz, S1, q⟩ := z
 subst e
 exact ⟨by rw [S_length]; exact Nat.le_trans hz (by decide), .str (S w), H', ⟨_, rfl⟩, S1.toks, q⟩
inductive FmS (Q : AV → AH → Prop) (a : AV) (H1 : AH) : Prop
 | mk' (w : W) (e : a = .str (S w)) (hz : w.length ≤ 1000000) (q : Q (.str (S w)) H1)
inductive FmI (Q : AV → AH → Prop) (a : AV) (H1 : AH) : Prop
 | mk' (i : Int) (e : a = .int i) (hz : i.natAbs.log2 < 1920) (q : Q (.str (S (numW i))) H1)
theorem EW.fmt {e : Expr} {pos : Pos} (h : EW c e L H fun a H1 => FmS Q a H1 ∨ FmI Q a H1) : EW c (.FormattedValue e (-1) none pos) L H Q := fun R s S' => by
 refine wpAny_FormattedValue_plain (h.run S' fun v a H1 s1 hv S1 q => ?_)
 rcases q with ⟨w, rfl, hz, q⟩ | ⟨i, rfl, hz, q⟩
 ·obtain ⟨t, rfl⟩ := hv
  exact wpAny_formatField_str ⟨.str (S w), H1, ⟨_, rfl⟩, S1, q⟩ ⟨.str (S w), H1, ⟨_, rfl⟩, S1.toks, q⟩ (by rw [S_length]; exact Nat.le_trans hz (by decide))
 ·obtain ⟨t, rfl⟩ := hv
  exact wpAny_formatField_int hz ⟨.str (S (numW i)), H1, ⟨_, rfl⟩, S1.toks, q⟩
noncomputable def joinW (sep : W) : List W → W
 | [] => []
 | [w] => w
 | w :: v :: r => w ++ sep ++ joinW sep (v :: r)
theorem joinW_S (sep : W) : ∀ ws : List W, Str.join (S sep) (ws.map S) = S (joinW sep ws)
 | [] => rfl
 | [w] => rfl
 | w :: v :: r => by
  show S w ++ S sep ++ Str.join (S sep) ((v :: r).map S) = _
  rw [joinW_S sep (v :: r), S_append, S_append]; rfl
theorem strsAre_of {ws : List W} {vs : List Value} (h : VRels (ws.map fun w => AV.str (S w)) vs) : StrsAre vs (ws.map S) := by
 induction ws generalizing vs with
 | nil => cases h; exact .nil
 | cons w ws ih =>
  cases h with
  | cons h t =>
   obtain ⟨k, rfl⟩ := h
   exact .cons _ k (ih t)
theorem txt_join (sep : W) (ws : List W) : Txt.join (S sep) (ws.map S) = S (joinW sep ws) := by
 rw [← joinW_S]
 unfold Txt.join
 exact StrLaws.glued_eq_join _ _
theorem CallW.join {sep : W} {ws : List W} {D : Addr} (hD : H D = some (.list (ws.map fun w => AV.str (S w)))) (hz : (ws.map (·.length)).sum + ws.length * sep.length ≤ 16777216) (h : Q (.str (S (joinW sep ws))) H) : CallW c (.builtin "str.join") [.str (S sep), .ref D] L H Q := by
 rintro _ (_ | ⟨⟨t, rfl⟩, _ | ⟨rfl, _ | _⟩⟩) R s S'
 obtain ⟨vs, hv, hL⟩ := isL S' hD
 refine join_list hL (strsAre_of hv) ?_ fun t' k => ⟨.str (S (joinW sep ws)), H, ⟨t', by rw [txt_join]⟩, S'.toks, h⟩
 rw [List.map_map, List.length_map, S_length]
 have e : ((fun x : Str => x.length) ∘ S) = fun w : W => w.length := funext fun w => S_length w
 show (List.map ((fun x : Str => x.length) ∘ S) ws).sum + _ ≤ _
 rw [e]; exact hz
end
end
end
section
set_option maxHeartbeats 4000000
noncomputable section
noncomputable def delayT (r : Row) : List W := match r.delays.getLast? with
 | some d => [lit "Crawl-delay: " ++ numW d]
 | none => []
noncomputable def rateT (r : Row) : List W := match r.rates.getLast? with
 | some p => [lit "Request-rate: " ++ numW p.1 ++ lit "/" ++ numW p.2]
 | none => []
noncomputable def strOf : Nat → List Row → Row → W
 | 0, _, _ => []
 | n + 1, rows, row => if row.agents.isEmpty then [] else joinW (lit "\n") (row.agents.map (fun p => lit "User-agent: " ++ p.1) ++ delayT row ++ rateT row ++
   if row.rules.isEmpty then [lit "Allow:"] else row.rules.map fun p => if p.1 > 0 then (match rows[p.1]? with | some r => strOf n rows r | none => []) else lit "Disallow: " ++ p.2.1)
noncomputable def ruleT (n : Nat) (rows : List Row) (p : Nat × W × W) : W := if p.1 > 0 then (match rows[p.1]? with | some r => strOf n rows r | none => []) else lit "Disallow: " ++ p.2.1
noncomputable def Fit : Nat → List Row → Row → Prop
 | 0, _, _ => False
 | n + 1, rows, row => RowOk row ∧ ∀ p ∈ row.rules, p.1 > 0 → ∃ r, rows[p.1]? = some r ∧ Fit n rows r ∧ (strOf n rows r).length ≤ 250000
theorem f65 (P) : (Kf P).lookup 65 = some (fnO (metS 4 1) (o "Entry.__str__") .none (.str (o "cpy313.urllib.robotparser") 331) (.ref 64)) := by rfl
theorem g65 (P) : codeIn (Kf P) (.ref 64) (o "Entry.__str__") = true := rfl
theorem str82 (P) : findIn (Kf P) (.ref 82) "__str__" = some (some (.ref 65)) := by kernel_rfl
theorem fn65 (P) : isFn (Kf P) (.ref 65) = true := by kernel_rfl
inductive M65 (H : AH) (x : Addr) (ws : List W) (L1 : AL) (H1 : AH) : Prop
 | mk' (ret : Addr) (e1 : L1 (o "self") = some (.ref x)) (e2 : L1 (o "ret") = some (.ref ret)) (h : H ret = none) (eH : H1 = hset H ret (.list (ws.map fun w => AV.str (S w))))
inductive N65 (H : AH) (ret : Addr) (ws : List W) (L2 : AL) (H2 : AH) : Prop
 | mk' (Hx : AH) (e2 : L2 (o "ret") = some (.ref ret)) (le : HLe H Hx) (h : Hx ret = none) (eH : H2 = hset Hx ret (.list (ws.map fun w => AV.str (S w))))
theorem uaL {p : W} (h : p.length ≤ 60) : (lit "User-agent: " ++ p).length ≤ 72 := apD (a := 12) (by decide) h tt
theorem cdL {i : Int} (h0 : 0 ≤ i) (h1 : i < 1000) : (lit "Crawl-delay: " ++ numW i).length ≤ 16 := apD (a := 13) (by decide) (numW_le h0 h1) tt
theorem i10 {i : Int} (h : i < 10) : i < 1000 := Int.lt_trans h (by decide)
theorem i100 {i : Int} (h : i < 100) : i < 1000 := Int.lt_trans h (by decide)
section
variable {p : Int × Int} (h : (0 ≤ p.1 ∧ p.1 < 10) ∧ 0 ≤ p.2 ∧ p.2 < 100)
include h
theorem rrL1 : (lit "Request-rate: " ++ numW p.1).length ≤ 17 := apD (a := 14) (by decide) (numW_le h.1.1 (i10 h.1.2)) tt
theorem rrL2 : (lit "Request-rate: " ++ numW p.1 ++ lit "/").length ≤ 18 := apD (b := 1) (rrL1 h) (by decide) tt
theorem rrL3 : (lit "Request-rate: " ++ numW p.1 ++ lit "/" ++ numW p.2).length ≤ 21 := apD (rrL2 h) (numW_le h.2.1 (i100 h.2.2)) tt
end
theorem sum_len {k : Nat} {ws : List W} (h : ∀ w ∈ ws, w.length ≤ k) : (ws.map (·.length)).sum ≤ ws.length * k := by
 induction ws with
 | nil => exact Nat.zero_le _
 | cons a l ih =>
  rw [List.map_cons, List.sum_cons, List.length_cons, Nat.succ_mul, Nat.add_comm]
  exact Nat.add_le_add (ih fun w hw => h w (.tail _ hw)) (h a (.head _))
theorem delayT_none {row : Row} (h : row.delays.getLast? = none) : delayT row = [] := by unfold delayT; rw [h]
theorem delayT_some {row : Row} {v : Int} (h : row.delays.getLast? = some v) : delayT row = [lit "Crawl-delay: " ++ numW v] := by unfold delayT; rw [h]
theorem rateT_none {row : Row} (h : row.rates.getLast? = none) : rateT row = [] := by unfold rateT; rw [h]
theorem rateT_some {row : Row} {p : Int × Int} (h : row.rates.getLast? = some p) : rateT row = [lit "Request-rate: " ++ numW p.1 ++ lit "/" ++ numW p.2] := by unfold rateT; rw [h]
theorem delayT_len (row : Row) : (delayT row).length ≤ 1 := by unfold delayT; split <;> simp
theorem rateT_len (row : Row) : (rateT row).length ≤ 1 := by unfold rateT; split <;> simp
theorem head_len {row : Row} (hokr : RowOk row) : (row.agents.map (fun p => lit "User-agent: " ++ p.1) ++ delayT row ++ rateT row).length ≤ 62 := by
 rw [List.length_append, List.length_append, List.length_map]
 exact addD (addD hokr.count.1 (delayT_len row) (k := 61) tt) (rateT_len row) tt
theorem head_each {row : Row} (hokr : RowOk row) : ∀ w ∈ row.agents.map (fun p => lit "User-agent: " ++ p.1) ++ delayT row ++ rateT row, w.length ≤ 80 := by
 intro w hw
 rcases List.mem_append.mp hw with hw | hw
 ·rcases List.mem_append.mp hw with hw | hw
  ·obtain ⟨p, hp, rfl⟩ := List.mem_map.mp hw
   exact leD (uaL (hokr.agents p hp).1) tt
  ·unfold delayT at hw
   cases hld : row.delays.getLast? with
   | none => rw [hld] at hw; cases hw
   | some dv =>
    rw [hld] at hw
    have hdv := hokr.delays dv (List.mem_of_getLast? hld)
    rw [List.mem_singleton.mp hw]; exact leD (cdL hdv.1 hdv.2) tt
 ·unfold rateT at hw
  cases hlr : row.rates.getLast? with
  | none => rw [hlr] at hw; cases hw
  | some pr =>
   rw [hlr] at hw
   rw [List.mem_singleton.mp hw]; exact leD (rrL3 (hokr.rates pr (List.mem_of_getLast? hlr))) tt
theorem rm65 {n r d : Nat} (h : 4 * (n + 1) ≤ r) (e : d + 1 = r) : 2 ≤ d - 1 ∧ 1 ≤ d - 1 - 1 ∧ 4 * n ≤ d - 1 - 1 - 1 := by
 subst e
 have h3 : 4 * n + 3 ≤ d := Nat.le_of_succ_le_succ h
 have h4 : 3 ≤ d := Nat.le_trans (Nat.le_add_left 3 (4 * n)) h3
 exact ⟨Nat.le_sub_of_add_le (show 2 + 1 ≤ d from h4), Nat.le_sub_of_add_le (Nat.le_sub_of_add_le (show 1 + 1 + 1 ≤ d from h4)), Nat.le_sub_of_add_le (Nat.le_sub_of_add_le (Nat.le_sub_of_add_le (show 4 * n + 1 + 1 + 1 ≤ d from h3)))⟩
inductive I65 (H : AH) (x ret : Addr) (ws : List W) (L2 : AL) (H2 : AH) : Prop
 | mk' (e1 : L2 (o "self") = some (.ref x)) (e2 : L2 (o "ret") = some (.ref ret)) (eH : H2 = hset H ret (.list (ws.map fun w => AV.str (S w))))
inductive J65 (H : AH) (it rl tp mp : Addr) (ws T : List W) (N m : Nat) (ys : List AV) (Hx : AH) : Prop
 | mk' (i : Nat) (em : m = N - i) (hi : i ≤ N) (hli : LiAt Hx it rl i) (g1 : Hx tp = some (.raw (oneO it))) (g2 : Hx mp = some (.raw (mapO tp (.type "str")))) (k : HLe H Hx) (ey : ys = (ws ++ T.take i).map fun w => AV.str (S w))
theorem snocA {α : Type} {f : α → W} {xs : List α} {i : Nat} {p : α} (h : xs[i]? = some p) : ((xs.take (i + 1)).map f).map (fun w => AV.str (S w)) = ((xs.take i).map f).map (fun w => AV.str (S w)) ++ [AV.str (S (f p))] := by
 rw [List.take_add_one, h]; simp
theorem snocB {T ws : List W} {i : Nat} {w : W} (h : T[i]? = some w) : ((ws ++ T.take i).map fun w => AV.str (S w)) ++ [AV.str (S w)] = (ws ++ T.take (i + 1)).map fun w => AV.str (S w) := by
 rw [List.take_add_one, h]; simp
theorem snocC {ws : List W} {w : W} : (ws.map fun w => AV.str (S w)) ++ [AV.str (S w)] = (ws ++ [w]).map fun w => AV.str (S w) := by
 rw [List.map_append]; rfl
section
variable {c : Cx} {L : AL} {H : AH}
theorem c65 : ∀ (n : Nat) {c : Cx} {L : AL} {H : AH} {xs : List Addr} {rows : List Row} {x : Addr} {row : Row}, 4 * n ≤ c.d.room → RecAt H xs x row → All2 (RecAt H xs) xs rows → Fit n rows row →
  CodeW c (.ref 65) [.ref x] [] [] L H (fun a H' => HLe H H' ∧ a = .str (S (strOf n rows row)))
 | 0, _, _, _, _, _, _, _, _, _, _, hf => hf.elim
 | n + 1, c, L, H, xs, rows, x, row, hroom, hrec, hall, hfit => by
  generalize hQ : (fun (a : AV) (H' : AH) => HLe H H' ∧ a = .str (S (strOf (n + 1) rows row))) = Q
  refine CodeW.enterP (ns := [o "self"]) (bas := [.ref x]) (f65 _) (g65 _) (by first | exact room_1 hroom tt | omega) (fun vs ws hv hw => ?_) (by rfl) (by rfl) (by rfl) (by rfl) (by rfl) fun d hrm _ Pf hPf => ?_
  ·obtain ⟨_, _, rfl, h1, hv⟩ := hv.cons_inv
   cases hv
   exact ⟨[_], .cons h1 .nil, fun s _ => BindsTo.of_eq (by rfl)⟩
  replace hrm : d.room + 1 = c.d.room := hrm
  conv in fBody _ => whnf
  obtain ⟨dx, e, gx, gd, ua, rl, dv, rv, rfl, gua, grl, rfl, hrate⟩ := hrec
  obtain ⟨hokr, hch⟩ := hfit
  generalize hL0 : bindA [o "self"] [.ref x] = L0
  have eL0 : L0 (o "self") = some (.ref x) := by rw [← hL0]; rfl
  clear hL0
  have c4 := hokr.count
  repeat walk_at "f"
  refine CB.val ?_
  repeat walk_at "f"
  refine GetW.own (a := .ref ua) gx gd rfl (own82_ua _) ?_
  refine TrW.list gua (by rw [List.length_map]; exact Nat.le_trans c4.1 (by decide)) ?_
  rw [List.isEmpty_map]
  cases hae : row.agents.isEmpty with
  | true =>
   repeat walk_at "f"
   first | with_reducible refine if_t (show (!!true) = true from rfl) ?_ | rw [show (!!true) = true from rfl, if_pos rfl]
   repeat walk_at "f"
   rw [← hQ]
   exact ⟨HLe.rfl, by unfold strOf; rw [hae, if_pos rfl]; rfl⟩
  | false =>
  repeat walk_at "f"
  first | with_reducible refine if_f (ne_true (show (!!false) = false from rfl)) ?_ | rw [show (!!false) = false from rfl, if_neg (by decide)]
  refine SS.nil ?_
  have old : ∀ {ret a : Addr} {ob o' : AObj}, H ret = none → H a = some ob → hset H ret o' a = some ob := fun h k => hset_old h k
  with_reducible refine Then.next ?_
  with_reducible refine SS.seq (M65 H x []) (fun _ hPs => ?_) ?_
  ·repeat walk_at "f"
   refine ⟨Nat.le_of_ble_eq_true tt, fun ret h1 => ?_⟩
   repeat walk_at "f"
   exact ⟨rfl, ret, by walk_at "lk", by walk_at "lk", h1, rfl⟩
  clear eL0 L0
  intro L1 H1 hm
  obtain ⟨ret, e1, e2, h1, rfl⟩ := hm
  with_reducible refine SS.seq (M65 H x (row.agents.map fun p => lit "User-agent: " ++ p.1)) (fun _ hPs => ?_) ?_
  ·refine ST.forP ?_
   repeat walk_at "f"
   refine GetW.own (a := .ref ua) (old h1 gx) (old h1 gd) rfl (own82_ua _) ?_
   refine ⟨_, _, IterW.list (old h1 gua), fun i => I65 H x ret ((row.agents.take i).map fun p => lit "User-agent: " ++ p.1), ⟨e1, e2, rfl⟩, ?_, ?_, ?_⟩
   ·rintro i L2 H2 ⟨_, _, rfl⟩
    exact old h1 gua
   ·repeat walk_at "f"
    rintro i v L2 H2 hx Pk hPk ⟨f1, f2, rfl⟩
    rw [List.getElem?_map] at hx
    obtain ⟨p, hp, rfl⟩ := Option.map_eq_some_iff.mp hx
    have hl := hokr.agents p (List.mem_of_getElem? hp)
    have hi := (List.getElem?_eq_some_iff.mp hp).1
    have e12 : (lit "User-agent: ").length = 12 := by decide
    repeat walk_at "f"
    refine ⟨⟨⟨_, hset_same _ _ _⟩, rfl⟩, ?_⟩
    repeat walk_at "f"
    refine EW.joined (JoW.cons ?_)
    repeat walk_at "f"
    refine ⟨_, rfl, by decide, JoW.cons ?_⟩
    refine EW.fmt ?_
    repeat walk_at "f"
    refine .inl ⟨p.1, rfl, leD hl.1 tt, p.1, rfl, ?_, JoW.nil ?_ ?_⟩
    ·exact addD (a := 12) (by decide) hl.1 tt
    ·exact leD (uaL hl.1) tt
    repeat walk_at "f"
    refine CallW.append (hset_same _ _ _) (by rw [List.length_map, List.length_map, List.length_take]; exact leD (Nat.le_trans (Nat.min_le_right ..) c4.1) tt) ?_
    repeat walk_at "f"
    refine ⟨trivial, by walk_at "lk", by walk_at "lk", ?_⟩
    rw [hset_hset, snocA hp]; rfl
   ·rintro L2 H2 ⟨f1, f2, rfl⟩
    repeat walk_at "f"
    rw [List.length_map, List.take_length]
    exact ⟨rfl, ret, f1, f2, h1, rfl⟩
  clear e1 e2 h1 ret L1
  intro L1 H1 hm
  obtain ⟨ret, e1, e2, h1, rfl⟩ := hm
  with_reducible refine SS.seq (M65 H x (row.agents.map (fun p => lit "User-agent: " ++ p.1) ++ delayT row)) (fun _ hPs => ?_) ?_
  ·repeat walk_at "f"
   refine GetW.own (a := delayV row) (old h1 gx) (old h1 gd) rfl (own82_dl _) ?_ (by unfold delayV; split <;> rfl)
   repeat walk_at "f"
   refine CmpW.isNotN (by unfold delayV; split <;> rfl) ?_
   repeat walk_at "f"
   unfold delayV
   cases hld : row.delays.getLast? with
   | none =>
    first | with_reducible refine if_f (ne_true (show (!AV.none.isNone) = false from rfl)) ?_ | rw [show (!AV.none.isNone) = false from rfl, if_neg (by decide)]
    repeat walk_at "f"
    exact ⟨rfl, ret, e1, e2, h1, by rw [delayT_none hld, List.append_nil]⟩
   | some dv =>
    first | with_reducible refine if_t (show (!(AV.int dv).isNone) = true from rfl) ?_ | rw [show (!(AV.int dv).isNone) = true from rfl, if_pos rfl]
    have hdv := hokr.delays dv (List.mem_of_getLast? hld)
    have hnl := numW_le hdv.1 hdv.2
    have e13 : (lit "Crawl-delay: ").length = 13 := by decide
    repeat walk_at "f"
    refine ⟨⟨⟨_, hset_same _ _ _⟩, rfl⟩, ?_⟩
    repeat walk_at "f"
    refine EW.joined (JoW.cons ?_)
    repeat walk_at "f"
    refine ⟨_, rfl, by decide, JoW.cons ?_⟩
    refine EW.fmt ?_
    repeat walk_at "f"
    refine GetW.own (a := .int dv) (old h1 gx) (old h1 gd) (by show some (delayV row) = _; unfold delayV; rw [hld]) (own82_dl _) ?_
    refine .inr ⟨dv, rfl, log2_small hdv.1 hdv.2, _, rfl, ?_, JoW.nil ?_ ?_⟩
    ·exact addD (a := 13) (by decide) hnl tt
    ·exact leD (cdL hdv.1 hdv.2) tt
    repeat walk_at "f"
    refine CallW.append (hset_same _ _ _) (by rw [List.length_map, List.length_map]; exact leD c4.1 tt) ?_
    repeat walk_at "f"
    repeat walk_at "f"
    exact ⟨rfl, ret, e1, e2, h1, by rw [hset_hset, delayT_some hld, snocC]; rfl⟩
  clear e1 e2 h1 ret L1
  intro L1 H1 hm
  obtain ⟨ret, e1, e2, h1, rfl⟩ := hm
  with_reducible refine SS.seq (M65 H x (row.agents.map (fun p => lit "User-agent: " ++ p.1) ++ delayT row ++ rateT row)) (fun _ hPs => ?_) ?_
  ·repeat walk_at "f"
   unfold RateV at hrate
   repeat walk_at "f"
   cases hlr : row.rates.getLast? with
   | none =>
    rw [hlr] at hrate
    replace hrate : rv = .none := hrate
    subst hrate
    refine GetW.own (a := .none) (old h1 gx) (old h1 gd) rfl (own82_rr _) ?_
    repeat walk_at "f"
    refine CmpW.isNotN rfl ?_
    repeat walk_at "f"
    first | with_reducible refine if_f (ne_true (show (!AV.none.isNone) = false from rfl)) ?_ | rw [show (!AV.none.isNone) = false from rfl, if_neg (by decide)]
    repeat walk_at "f"
    exact ⟨rfl, ret, e1, e2, h1, by rw [rateT_none hlr, List.append_nil]⟩
   | some pr =>
    rw [hlr] at hrate
    obtain ⟨rr, dr, es, rfl, grr, gdr, g1, g2⟩ := hrate
    refine GetW.own (a := .ref rr) (old h1 gx) (old h1 gd) rfl (own82_rr _) ?_
    repeat walk_at "f"
    refine CmpW.isNotN rfl ?_
    repeat walk_at "f"
    first | with_reducible refine if_t (show (!(AV.ref rr).isNone) = true from rfl) ?_ | rw [show (!(AV.ref rr).isNone) = true from rfl, if_pos rfl]
    have hpr := hokr.rates pr (List.mem_of_getLast? hlr)
    repeat walk_at "f"
    refine GetW.own (a := .ref rr) (old h1 gx) (old h1 gd) rfl (own82_rr _) ?_
    repeat walk_at "f"
    refine ⟨⟨⟨_, hset_same _ _ _⟩, rfl⟩, ?_⟩
    repeat walk_at "f"
    refine EW.joined (JoW.cons ?_)
    repeat walk_at "f"
    refine ⟨_, rfl, by decide, JoW.cons ?_⟩
    refine EW.fmt ?_
    repeat walk_at "f"
    refine GetW.own (a := .int pr.1) (old h1 grr) (old h1 gdr) g1 (own82_rq _) ?_
    refine .inr ⟨pr.1, rfl, log2_small hpr.1.1 (i10 hpr.1.2), _, rfl, ?_, JoW.cons ?_⟩
    ·exact addD (a := 14) (by decide) (numW_le hpr.1.1 (i10 hpr.1.2)) tt
    repeat walk_at "f"
    refine ⟨_, rfl, ?_, JoW.cons ?_⟩
    ·exact addD (b := 1) (rrL1 hpr) (by decide) tt
    refine EW.fmt ?_
    repeat walk_at "f"
    refine GetW.own (a := .int pr.2) (old h1 grr) (old h1 gdr) g2 (own82_sc _) ?_
    refine .inr ⟨pr.2, rfl, log2_small hpr.2.1 (i100 hpr.2.2), _, rfl, ?_, JoW.nil ?_ ?_⟩
    ·exact addD (rrL2 hpr) (numW_le hpr.2.1 (i100 hpr.2.2)) tt
    ·exact leD (rrL3 hpr) tt
    repeat walk_at "f"
    refine CallW.append (hset_same _ _ _) (by rw [List.length_map, List.length_append, List.length_map]; exact addD c4.1 (delayT_len row) tt) ?_
    repeat walk_at "f"
    repeat walk_at "f"
    exact ⟨rfl, ret, by walk_at "lk", by walk_at "lk", h1, by rw [hset_hset, rateT_some hlr, snocC]; rfl⟩
  clear e1 e2 h1 ret L1
  intro L1 H1 hm
  obtain ⟨ret, e1, e2, h1, rfl⟩ := hm
  generalize hws : row.agents.map (fun p => lit "User-agent: " ++ p.1) ++ delayT row ++ rateT row = ws
  have hwl : ws.length ≤ 62 := hws ▸ head_len hokr
  have hwsum : (ws.map (·.length)).sum ≤ ws.length * 80 := sum_len (hws ▸ head_each hokr)
  obtain ⟨T, hT⟩ : ∃ T : List W, T = if row.rules.isEmpty then [lit "Allow:"] else row.rules.map (ruleT n rows) := ⟨_, rfl⟩
  have hTl : T.length ≤ 60 ∧ (T.map (·.length)).sum ≤ T.length * 250000 := by
   have key : T.length ≤ 60 ∧ ∀ w ∈ T, w.length ≤ 250000 := by
    rw [hT]
    split
    ·exact ⟨by decide, fun w hw => by rw [List.mem_singleton.mp hw]; decide⟩
    ·refine ⟨by rw [List.length_map]; exact c4.2, fun w hw => ?_⟩
     obtain ⟨p, hp, rfl⟩ := List.mem_map.mp hw
     unfold ruleT
     split
     ·rename_i hpos
      obtain ⟨r, hr, _, hz⟩ := hch p hp hpos
      rw [hr]; exact hz
     ·exact apD (a := 10) (by decide) (hokr.rules p hp).1 tt
   exact ⟨key.1, sum_len key.2⟩
  have hfinal : strOf (n + 1) rows row = joinW (lit "\n") (ws ++ T) := by
   rw [← hws, hT]
   unfold strOf
   first | with_reducible refine if_f (ne_true (hae)) ?_ | rw [hae, if_neg (by decide)]
   rfl
  with_reducible refine SS.seq (N65 H ret (ws ++ T)) (fun _ hPs => ?_) ?_
  ·refine ST.iff (CB.val ?_)
   repeat walk_at "f"
   refine GetW.own (a := .ref rl) (old h1 gx) (old h1 gd) rfl (own82_rl _) ?_
   refine TrW.list (old h1 grl) (by rw [List.length_map]; exact Nat.le_trans c4.2 (by decide)) ?_
   rw [List.isEmpty_map]
   cases hre : row.rules.isEmpty with
   | true =>
    first | with_reducible refine if_f (ne_true (show (!true) = false from rfl)) ?_ | rw [show (!true) = false from rfl, if_neg (by decide)]
    repeat walk_at "f"
    refine ⟨⟨⟨_, hset_same _ _ _⟩, rfl⟩, ?_⟩
    repeat walk_at "f"
    refine CallW.append (hset_same _ _ _) (by rw [List.length_map]; exact leD hwl tt) ?_
    repeat walk_at "f"
    rw [hset_hset]
    refine ⟨rfl, H, e2, HLe.rfl, h1, ?_⟩
    rw [hT, hre, if_pos rfl, snocC] <;> rfl
   | false =>
    first | with_reducible refine if_t (show (!false) = true from rfl) ?_ | rw [show (!false) = true from rfl, if_pos rfl]
    rw [hre, if_neg (by decide)] at hT
    refine SS.one (ST.expr (EW.methB PySem.F.plainAttrs_list PySem.F.slot_list_extend PySem.F.type_list_extend ?_))
    repeat walk_at "f"
    refine ⟨⟨⟨_, hset_same _ _ _⟩, rfl⟩, ?_⟩
    repeat walk_at "f"
    refine GetW.own (a := .ref rl) (old h1 gx) (old h1 gd) rfl (own82_rl _) ?_
    repeat walk_at "f"
    refine CallW.map (old h1 grl) fun it tp mp n1 n2 n3 a1 a2 a3 => ?_
    repeat walk_at "f"
    have nr1 : ret ≠ it := fun q => by rw [← q, hset_same] at n1; cases n1
    have nr2 : ret ≠ tp := fun q => by rw [← q, hset_same] at n2; cases n2
    have nr3 : ret ≠ mp := fun q => by rw [← q, hset_same] at n3; cases n3
    have z1 : H it = none := hset_none n1
    have z2 : H tp = none := hset_none n2
    have z3 : H mp = none := hset_none n3
    have ed : hdel (mapH (hset H ret (.list (ws.map fun w => AV.str (S w)))) it tp mp rl 0 (.type "str")) ret = mapH H it tp mp rl 0 (.type "str") := by
     unfold mapH
     rw [hset_comm nr1, hset_comm nr2, hset_comm nr3, hdel_hset_none]
     rw [hset_ne nr3, hset_ne nr2, hset_ne nr1]; exact h1
    have em : (mapH (hset H ret (.list (ws.map fun w => AV.str (S w)))) it tp mp rl 0 (.type "str")) ret = some (.list (ws.map fun w => AV.str (S w))) := by
     unfold mapH
     rw [hset_ne nr3, hset_ne nr2, hset_ne nr1, hset_same]
    have ntp : tp ≠ it := Ne.symm a1
    have nmp : mp ≠ it := Ne.symm a2
    have hTlen : T.length = row.rules.length := by rw [hT, List.length_map]
    refine CallW.extend (T := .type "map") (n := row.rules.length) (by first | exact room_le hroom hrm tt | exact room_le hroom hr tt | (show 2 ≤ d.room; omega)) em nr3
     (J65 H it rl tp mp ws T row.rules.length)
     (fun ys Hx => HLe H Hx ∧ ys = (ws ++ T).map fun w => AV.str (S w)) (fun A nr => ItTy.map (tp := tp) (f := .type "str") (by rw [ed]; exact hset_same _ _ _)) ?_ ?_ ?_
    ·rintro A nr m ys Hx ⟨i, rfl, hi, hli, gtp, gmp, kx, rfl⟩
     refine ⟨by rw [List.length_map, List.length_append, List.length_take]; exact addD hwl (Nat.le_trans (Nat.min_le_right ..) hTl.1) tt, ?_⟩
     rcases Nat.lt_or_ge i row.rules.length with hlt | hge
     ·obtain ⟨p, hp⟩ : ∃ p, row.rules[i]? = some p := ⟨_, List.getElem?_eq_getElem hlt⟩
      have hpm := List.mem_of_getElem? hp
      have hTi : T[i]? = some (ruleT n rows p) := by rw [hT, List.getElem?_map, hp]; rfl
      refine NxW.mapItem (xs := row.rules.map (ruleV xs)) (i := i) (a := ruleV xs p) (rm65 hroom hrm).1 hli gtp gmp (kx _ _ grl) (by rw [List.getElem?_map, hp]; rfl) fun A' nr' ob hc hd => ?_
      have k2 : HLe H (hset Hx it (.raw ob)) := HLe.mut z1 kx
      have fin : ∀ {v : AV} {H' : AH}, HLe (hset Hx it (.raw ob)) H' → v = .str (S (ruleT n rows p)) → ∃ m', m' < row.rules.length - i ∧ J65 H it rl tp mp ws T row.rules.length m' (((ws ++ T.take i).map fun w => AV.str (S w)) ++ [v]) H' := fun k e =>
       ⟨row.rules.length - (i + 1), Nat.sub_lt_sub_left hlt (Nat.lt_succ_self i), i + 1, rfl, hlt, ⟨ob, k _ _ (hset_same _ _ _), hc, hd⟩, k _ _ ((hset_ne ntp).trans gtp), k _ _ ((hset_ne nmp).trans gmp), k2.trans k, by rw [e, snocB hTi]⟩
      by_cases hpos : p.1 > 0
      ·obtain ⟨r, hr, hfr, _⟩ := hch p hpm hpos
       obtain ⟨xi, hxi, hrec⟩ := hall.getR hr
       have ev : ruleV xs p = .ref xi := by unfold ruleV; rw [if_pos hpos, List.getD_eq_getElem?_getD, hxi]; rfl
       rw [ev]
       obtain ⟨dxi, ei, gxi, gdi, _⟩ := id hrec
       refine CallW.strO (k2 _ _ gxi) (k2 _ _ gdi) (str82 _) (fn65 _) (rm65 hroom hrm).2.1 fun A'' nr'' => ?_
       refine (CallKW.toCall (CodeW.toKW (c65 n (c := Cx.to (Cx.to (Cx.to _ A) A') A'') (by show 4 * n ≤ d.room - 1 - 1 - 1; exact (rm65 hroom hrm).2.2) (hrec.mono k2) (hall.mono fun _ _ => RecAt.mono k2) hfr))).mono fun v H' h' => ?_
       obtain ⟨k3, rfl⟩ := h'
       refine ⟨_, rfl, fin k3 ?_⟩
       unfold ruleT
       rw [if_pos hpos, hr]
      ·have ev : ruleV xs p = .str (S (lit "Disallow: " ++ p.2.1)) := by unfold ruleV; rw [if_neg hpos]
       rw [ev]
       refine CallW.strS (fin HLe.rfl ?_)
       unfold ruleT
       rw [if_neg hpos]
     ·have : i = row.rules.length := Nat.le_antisymm hi hge
      subst this
      refine NxW.mapEnd (xs := row.rules.map (ruleV xs)) hli gtp gmp (kx _ _ grl) (by rw [List.getElem?_eq_none_iff, List.length_map]; exact Nat.le_refl _) ?_
      exact ⟨HLe.del z1 kx, by rw [List.take_of_length_le (Nat.le_of_eq hTlen)]⟩
    ·rw [ed]
     exact ⟨0, rfl, Nat.zero_le _, ⟨_, by unfold mapH; rw [hset_ne a2, hset_ne a1, hset_same], rfl, rfl⟩, by unfold mapH; rw [hset_ne a3, hset_same], hset_same _ _ _, HLe.put (by rw [hset_ne (Ne.symm a3), hset_ne (Ne.symm a2)]; exact z3) (HLe.put (by rw [hset_ne (Ne.symm a1)]; exact z2) (HLe.new z1)), by rw [List.take_zero, List.append_nil]⟩
    ·rintro ys Hx ⟨kx, rfl⟩ hn
     repeat walk_at "f"
     exact ⟨rfl, Hx, e2, kx, hn, rfl⟩
  clear e1 e2 L1
  rintro L1 H1 ⟨Hx, e2, k1, hx, e⟩
  subst e
  refine SS.one (ST.ret (EW.methB PySem.F.plainAttrs_str PySem.F.slot_str_join PySem.F.type_str_join ?_))
  repeat walk_at "f"
  refine ⟨rfl, ?_⟩
  repeat walk_at "f"
  refine CallW.join (hset_same _ _ _) ?_ ?_
  ·have e1 : (lit "\n").length = 1 := by decide
   rw [List.map_append, List.sum_append, List.length_append, e1]
   first | exact sum_fit hwsum hwl hTl.2 hTl.1 | omega
  repeat walk_at "f"
  rw [← hQ]
  refine ⟨HLe.mut h1 k1, ?_⟩
  rw [hfinal] <;> rfl
end
end
end
section
noncomputable section
section
variable {prog : Program} {w : World} {A : Around} {E : Value → Shared → Prop} {s : Shared}
theorem setLoop {R : Result → Shared → Prop} {S I l : Addr} {vs : List Value} {ws : List Str} (hh : A.handled = none) (hSI : S ≠ I) (hSl : S ≠ l) (hIl : I ≠ l) (hv : StrsAre vs ws) (hb : ws.length + 1 < scanBound)
  (hR : ∀ s', (∃ n, n ≤ ws.length ∧ s'.heap.SetOf (strKind prog w) S (fun k => ws.contains k) n) → (∀ b o, b ≠ S → b ≠ I → s.heap.get? b = some o → s'.heap.get? b = some o) → s'.gens = s.gens → s'.drawn = s.drawn → s'.os = s.os → R (.ok (.ret .none)) s') :
  ∀ (k i n : Nat) (s₁ : Shared), k = ws.length - i → i ≤ ws.length → n ≤ i → s₁.heap.IsListIter I l i → s₁.heap.IsList l vs.toArray → s₁.heap.SetOf (strKind prog w) S (fun k => (ws.take i).contains k) n →
   (∀ b o, b ≠ S → b ≠ I → s.heap.get? b = some o → s₁.heap.get? b = some o) → s₁.gens = s.gens → s₁.drawn = s.drawn → s₁.os = s.os →
   codeAny (model prog w) A (.builtin "set.update.loop" ⟨[.ref S, .ref I], []⟩) R s₁ := by
 have hlen : ∀ {vs : List Value} {ws : List Str}, StrsAre vs ws → vs.length = ws.length := fun h => by induction h with | nil => rfl | cons _ _ _ ih => simp [ih]
 have hget : ∀ {vs : List Value} {ws : List Str}, StrsAre vs ws → ∀ (i : Nat) (x : Str), ws[i]? = some x → ∃ t, vs[i]? = some (.str x t) := by
  intro vs ws h
  induction h with
  | nil => intro i x e; simp at e
  | cons y t _ ih =>
   intro i x e
   cases i with
   | zero => simp at e; subst e; exact ⟨t, rfl⟩
   | succ i => simp at e; obtain ⟨u, hu⟩ := ih i x e; exact ⟨u, by simpa using hu⟩
 have hvl := hlen hv
 intro k
 induction k with
 | zero =>
  intro i n s₁ hk hi hn hit hl hS keep g1 g2 g3
  have : i = ws.length := Nat.le_antisymm hi (Nat.le_of_sub_eq_zero hk.symm)
  subst this
  refine codeAny_builtin PyProof.Rows.F.entry_set_update_loop ?_
  rw [Around.under_plainId PyProof.Rows.F.plain_set_update_loop _]
  show wpAny _ A.in1 (pyNext (.ref I) >>= _) _ _ s₁
  refine wpAny_bind (wpAny_pyNext_list_end hh hit hl (by simp [hvl]) fun h' hx => ?_)
  show wpAny _ A.in1 (ret Value.none) _ _ _
  rw [List.take_length] at hS
  refine wpAny_pure (hR _ ⟨n, hn, ?_⟩ (fun b o b1 b2 e => hx b o b2 (keep b o b1 b2 e)) g1 g2 g3)
  obtain ⟨o, es, ep, t, ho, rest⟩ := hS
  exact ⟨o, es, ep, t, hx _ _ hSI ho, rest⟩
 | succ k ih =>
  intro i n s₁ hk hi hn hit hl hS keep g1 g2 g3
  have hlt : i < ws.length := Nat.lt_of_sub_eq_succ hk.symm
  obtain ⟨t, ht⟩ := hget hv i _ (List.getElem?_eq_getElem hlt)
  refine codeAny_builtin PyProof.Rows.F.entry_set_update_loop ?_
  rw [Around.under_plainId PyProof.Rows.F.plain_set_update_loop _]
  show wpAny _ A.in1 (pyNext (.ref I) >>= _) _ _ s₁
  refine wpAny_bind (wpAny_pyNext_list_item hit hl (by simpa using ht) fun h' hit' hx => ?_)
  have hS' : h'.SetOf (strKind prog w) S (fun k => (ws.take i).contains k) n := by
   obtain ⟨o, es, ep, tb, ho, rest⟩ := hS
   exact ⟨o, es, ep, tb, (hx.2 _ hSI).trans ho, rest⟩
  show wpAny _ A.in1 (holding [Value.str ws[i] t] (setAdd S (.str ws[i] t)) >>= _) _ _ _
  refine wpAny_bind (wpAny_holding ?_)
  unfold setAdd
  refine wpAny_holding ?_
  refine wpAny_bind ((strKind prog w).pyHash (k := ws[i]) (strKind_is _ _ _ _) ?_)
  refine wpAny_setAddHashed_of (knd := strKind prog w) (s := ⟨h', s₁.gens, s₁.drawn, s₁.toks + 1, s₁.os⟩) (strKind_is _ _ _ _) rfl hS' (by first | exact Nat.lt_of_le_of_lt (Nat.succ_le_succ (Nat.le_trans hn hi)) hb | omega) fun h2 hsb hS2 => ?_
  refine wpAny_pure ⟨plainId_quiet PyProof.Rows.F.plain_set_update_loop _, ih (i + 1) _ _ (congrArg Nat.pred hk) hlt ?_ ?_ ?_ (PyProof.Rows.SetOf_congr hS2 (fun k' => ?_) rfl) (fun b o b1 b2 e => ?_) g1 g2 g3⟩
  ·split <;> first | exact Nat.le_succ_of_le hn | exact Nat.succ_le_succ hn
  ·obtain ⟨o, g, r⟩ := hit'
   exact ⟨o, (hsb.2 _ (Ne.symm hSI)).trans g, r⟩
  ·obtain ⟨o, g, r⟩ := hl
   exact ⟨o, (hsb.2 _ (Ne.symm hSl)).trans ((hx.2 _ (Ne.symm hIl)).trans g), r⟩
  ·have e : ws.take (i + 1) = ws.take i ++ [ws[i]] := by rw [List.take_add_one, List.getElem?_eq_getElem hlt]; rfl
   rw [e, Bool.eq_iff_iff]
   simp only [Bool.or_eq_true, List.contains_iff_mem, List.mem_append, List.mem_singleton, decide_eq_true_eq]
  ·exact (hsb.2 b b1).trans ((hx.2 b b2).trans (keep b o b1 b2 e))
end
inductive SetAt (c : Cx) (H : AH) (a : Addr) (ws : List W) : Prop
 | mk' (o : Obj) (n : Nat) (g : H a = some (.raw o)) (h : o.SetObjOf (strKind prg c.d.w) (fun k => (ws.map S).contains k) n) (hn : n < scanBound)
section
variable {c : Cx} {L : AL} {H : AH} {R : List (Addr × Obj)} {s : Shared} {Q : AV → AH → Prop}
set_option maxHeartbeats 4000000 in
theorem call_strSet {prog : Program} {w : World} {A : Around} {E : Value → Shared → Prop} {s : Shared} {l : Addr} {vs : List Value} {ws : List Str} {Q : Value → Shared → Prop} (hh : A.handled = none) (hl : s.heap.IsList l vs.toArray) (hi : StrsAre vs ws) (hb : ws.length + 1 < scanBound)
  (h : ∀ (h' : Heap) (tk : Nat), (∃ n, n ≤ ws.length ∧ h'.SetOf (strKind prog w) s.heap.objs.size (fun k => ws.contains k) n) → (∀ b o, s.heap.get? b = some o → h'.get? b = some o) → Q (.ref s.heap.objs.size) { s with heap := h', toks := tk }) :
  wpAny (model prog w) A (call (.type "set") [.ref l]) Q E s := by
 obtain ⟨c, tl, hmro⟩ := F.called_set.mro
 have hmade := F.called_set.made
 have hsub := F.called_set.sub
 refine wpAny_call (codeAny_of_tree ?_)
 show wpAny _ _ (callAny (.type "set") _) _ _ _
 refine wpAny_pure ⟨Code.quiet_builtin _ (by decide +kernel), codeAny_builtin F.entry_type_call ?_⟩
 rw [Around.under_plain (weight_type_call_type "set" [.ref l] []) rfl]
 have h1 := F.called_set.notType
 have h2 := F.called_set.canCreate
 have hct := F.typeCall_set_1 (.ref l)
 iterate 15 (any_goals (first | assumption | wp_step))
 refine codeAny_mono (code_set_new_1 (.ref l) (E := E) (Q₁ := fun obj s₁ => ∃ led : Bool, obj = .ref s.heap.objs.size ∧ s₁ = { s with heap := s.heap.push { cls := .type "set", dict := none, data := .set #[] 0 (.fresh 0 0 led) } }) fun led => ⟨led, rfl, rfl⟩) fun r s₁ hr => ?_
 cases r with
 | error e => exact hr
 | ok fl =>
 cases fl with
 | next => exact hr.elim
 | brk => exact hr.elim
 | cont => exact hr.elim
 | ret obj =>
 obtain ⟨led, rfl, rfl⟩ := hr
 have hS : (s.heap.push { cls := .type "set", dict := none, data := .set #[] 0 (.fresh 0 0 led) }).get? s.heap.objs.size = some { cls := .type "set", dict := none, data := .set #[] 0 (.fresh 0 0 led) } := Heap.get?_push_size _ rfl
 have hT : Shared.TypeIs { s with heap := s.heap.push { cls := .type "set", dict := none, data := .set #[] 0 (.fresh 0 0 led) } } (.ref s.heap.objs.size) "set" := ⟨_, hS, rfl⟩
 have hli := F.called_set.init.lookup
 have hbi := F.called_set.init.bind (.ref s.heap.objs.size)
 iterate 13 (any_goals (first | assumption | wp_step))
 refine codeAny_mono (codeAny_call_builtin (R := wants (fun r s₂ => r = .none ∧ Q (.ref s.heap.objs.size) s₂) E) F.called_set.init.plain F.entry_set_init (check_set_init_1 hT ?_)) fun r₂ s₂ hr₂ => ?_
 ·obtain ⟨ol, hol, hcl, nl, hdl⟩ := hl
  obtain ⟨ocls, odict, odata, oslots⟩ := ol
  simp only at hcl hdl
  subst hcl; subst hdl
  have hol' : (s.heap.push { cls := .type "set", dict := none, data := .set #[] 0 (.fresh 0 0 led) }).get? l = some { cls := .type "list", dict := odict, data := .seq vs.toArray nl, slots := oslots } := Heap.get?_push_of_some _ hol
  have hsls := F.sub_list_set
  have hslf := F.sub_list_frozenset
  have hne : (Value.type "list" == Value.type "dict") = false := by decide
  have hl1 : (s.heap.push { cls := .type "set", dict := none, data := .set #[] 0 (.fresh 0 0 led) }).IsList l vs.toArray := ⟨_, hol', rfl, nl, rfl⟩
  unfold Builtin.«set.__init__» noKeywords Builtin.Frozenset.updateFrom
  generalize hPI : pyIter = PI
  wp_walk
  subst hPI
  refine wpAny_pyIter_list hl1 ?_
  refine wpAny_bind (wpAny_runValue ?_)
  have hlS : l < s.heap.objs.size := Heap.lt_size hol
  have hsz : (s.heap.push { cls := .type "set", dict := none, data := .set #[] 0 (.fresh 0 0 led) }).objs.size = s.heap.objs.size + 1 := Heap.size_push ..
  refine setLoop (s := { s with heap := (s.heap.push { cls := .type "set", dict := none, data := .set #[] 0 (.fresh 0 0 led) }).push { cls := .type "list_iterator", data := .fields #[.ref l, .int 0 0] } }) (l := l) (vs := vs) (ws := ws) (by simp [hh]) (by rw [hsz]; exact Nat.ne_of_lt (Nat.lt_succ_self _)) (Nat.ne_of_gt hlS) (by rw [hsz]; exact Nat.ne_of_gt (Nat.lt_succ_of_lt hlS)) hi hb (fun s' hn hk g1 g2 g3 => ?_) (ws.length - 0) 0 0 _ rfl (Nat.zero_le _) (Nat.le_refl _) ⟨_, Heap.get?_push_size _ rfl, rfl, rfl⟩ (hl1.push _) ?_ (fun b o _ _ e => e) rfl rfl rfl
  ·obtain ⟨h', g', d', tk', os'⟩ := s'
   subst g1; subst g2; subst g3
   show wpAny _ _ _ _ _ _
   refine wpAny_pure ?_
   show wpAny _ _ (ret Value.none) _ _ _
   refine wpAny_pure ⟨rfl, h h' tk' hn fun b o e => hk b o ?_ ?_ (Heap.get?_push_of_some _ (Heap.get?_push_of_some _ e))⟩
   ·exact Nat.ne_of_lt (Heap.lt_size e)
   ·rw [hsz]; exact Nat.ne_of_lt (Nat.lt_succ_of_lt (Heap.lt_size e))
  ·have hget : ((s.heap.push { cls := .type "set", dict := none, data := .set #[] 0 (.fresh 0 0 led) }).push { cls := .type "list_iterator", data := .fields #[.ref l, .int 0 0] }).get? s.heap.objs.size
           = some { cls := .type "set", dict := none, data := .set #[] 0 (.fresh 0 0 led) } := Heap.get?_push_of_some _ hS
   exact PyProof.Rows.SetOf_congr ((PyProof.Rows.setObjOf_fresh (knd := strKind prog w) led).setOf hget (by unfold scanBound; omega)) (fun _ => rfl) rfl
 ·cases r₂ with
  | error e => exact hr₂
  | ok fl₂ =>
   cases fl₂ with
   | ret r =>
    obtain ⟨rfl, hq⟩ := hr₂
    iterate 6 (any_goals (first | assumption | wp_step))
   | _ => exact hr₂.elim
theorem set_live {o : Obj} {es : Array (Int × Value)} {ep : Nat} {t : SetTable} (h : o.data = .set es ep t) : o.isFreed = false := by
 obtain ⟨a1, a2, a3, a4⟩ := o
 cases (h : a3 = _); rfl
theorem CallW.strSet {l : Addr} {ws : List W} (hl : H l = some (.list (ws.map fun w => AV.str (S w)))) (hz : ws.length ≤ 1000) (h : ∀ a o n, H a = none → o.SetObjOf (strKind prg c.d.w) (fun k => (ws.map Mine.Internal.S).contains k) n → n < scanBound → Q (.ref a) (hset H a (.raw o))) : CallW c (.type "set") [.ref l] L H Q := by
 rintro _ (_ | ⟨rfl, _ | _⟩) R s S'
 obtain ⟨vs, hv, hL⟩ := isL S' hl
 refine call_strSet S'.ok.handled hL (strsAre_of hv) (by rw [List.length_map]; exact Nat.lt_of_le_of_lt (Nat.succ_le_succ hz) (by decide)) fun h' tk z hk => ?_
 obtain ⟨n, hn, hs⟩ := z
 obtain ⟨o, ho, hso⟩ := hs.objOf
 have hlt : n < scanBound := by rw [List.length_map] at hn; exact Nat.lt_of_le_of_lt (Nat.le_trans hn hz) (by decide)
 obtain ⟨_, es, ep, t, hd, _⟩ := id hso
 obtain ⟨e, S2⟩ := S'.alloc (tk := tk) (ao := .raw o) (newAt _) hk ho ⟨rfl, set_live hd⟩
 exact ⟨.ref _, _, rfl, S2, h _ o n e hso hlt⟩
end
end
end
section
noncomputable section
theorem look_ga : typeLookup (.type "set") "__getattribute__" = pure (some (.builtin "set.__getattribute__")) := by rw [typeLookup_type, builtinLookup_eq_fast]; kernel_rfl
theorem look_ct : typeLookup (.type "set") "__contains__" = pure (some (.builtin "set.__contains__")) := by rw [typeLookup_type, builtinLookup_eq_fast]; kernel_rfl
theorem slot_set_ga : Slot "set" "__getattribute__" "set.__getattribute__" :=
 .of (owner := "set") (n := "__getattribute__") (by rw [typeLookup_type, builtinLookup_eq_fast]; kernel_rfl) (by decide +kernel) (by decide +kernel) (by decide +kernel) (.inl (by decide +kernel)) (by rw [isSubtype_type]; kernel_rfl)
theorem entry_set_ga : entryFor table "set.__getattribute__" = some Builtin.«object.__getattribute__» :=
 entryFor_alias (id' := "object.__getattribute__") (by kernel_rfl) (by first | rfl | decide +kernel | (unfold String.splitOn; simp +decide [String.splitOnAux])) (by decide +kernel) (by kernel_rfl)
theorem type_set_ct : typeOf (.builtin "set.__contains__") = pure (.type "method_descriptor") := by show builtinType _ = _; rw [builtinType_eq_fast]; kernel_rfl
theorem args_set_ga (a b : Value) : argsOk "set.__getattribute__" ⟨[a, b], []⟩ := by
 unfold argsOk; rw [signature?_of (id := "set.__getattribute__") (n := ['_', '_', 'e', 't', 'u', 'b', 'i', 'r', 't', 't', 'a', 't', 'e', 'g', '_', '_']) (o := ['t', 'e', 's']) (by kernel_rfl) F.owner_set]; kernel_rfl
theorem slot_md_get : Slot "method_descriptor" "__get__" "method_descriptor.__get__" :=
 .of (owner := "method_descriptor") (n := "__get__") (by rw [typeLookup_type, builtinLookup_eq_fast]; kernel_rfl) (by decide +kernel) (by decide +kernel) (by decide +kernel) (.inl (by decide +kernel)) (by rw [isSubtype_type]; kernel_rfl)
theorem entry_md_get : entryFor table "method_descriptor.__get__" = some Builtin.«method_descriptor.__get__» := entryFor_of_tree (by kernel_rfl)
theorem sub_set_set : isSubtype (.type "set") (.type "set") = pure true := by rw [isSubtype_type]; kernel_rfl
section
variable {prog : Program} {w : World} {A : Around} {E : Value → Shared → Prop} {s : Shared}
theorem get_contains {d : Addr} {o : Obj} {Q : Value → Shared → Prop} (hd : s.heap.get? d = some o) (hc : o.ExactSet) {es : Array (Int × Value)} {ep : Nat} {tb : SetTable} (hdt : o.data = .set es ep tb)
  (h : ∀ tk, Q (.ref s.heap.objs.size) { s with heap := s.heap.push { cls := .type "builtin_function_or_method", data := .fields #[.builtin "set.__contains__", .ref d] }, toks := tk }) : wpAny (model prog w) A (getAttr (.ref d) (Str.ofString "__contains__") true) Q E s := by
 have hT : ∀ tk, Shared.TypeIs { s with toks := tk } (.ref d) "set" := fun tk => ⟨o, hd, hc.1⟩
 unfold getAttr getAttrBy
 refine wpAny_bind (wpAny_mkText (wpAny_holding (wpAny_bind (wpAny_typeOf (hT _) ?_))))
 refine wpAny_bind (wpAny_of_eq look_ga ?_)
 show wpAny _ _ (getAttrByItsOwn _ _ _ _ _ _) _ _ _
 unfold getAttrByItsOwn
 refine wpAny_bind (wpAny_pure ?_)
 refine wpAny_bind (wpAny_attempt (wpAny_holding ?_))
 show wpAny _ _ (boundAndCalled _ _ _) _ _ _
 unfold boundAndCalled
 refine wpAny_bind (wpAny_of_eq (slot_set_ga.bind _) ?_)
 refine wpAny_call_entry slot_set_ga (hT _) entry_set_ga ?_ (args_set_ga _ _)
 have hT1 := hT (s.toks + 1)
 show wpAny _ _ (typeOf (.ref d) >>= fun tp => Builtin.ObjectAttr.find (.ref d) tp (Str.ofString "__contains__") >>= _) _ _ _
 refine wpAny_bind (wpAny_typeOf hT1 ?_)
 refine wpAny_bind ?_
 unfold Builtin.ObjectAttr.find Builtin.ObjectAttr.getOf Builtin.ObjectAttr.dataDescriptor?
 refine wpAny_bind (wpAny_of_eq look_ct ?_)
 dsimp only
 have X : ∀ {h : Heap}, Frag.In [] h := fun _ _ e => nomatch e
 refine wpAny_bind ((looks_specialIn (K := []) X (v := .builtin "set.__contains__") (name := Str.ofString "__get__") (r := some (.builtin "method_descriptor.__get__")) (by kernel_rfl)).here ?_)
 refine wpAny_bind (wpAny_bind ((looks_takesIn (K := []) X (a := .builtin "set.__contains__") (r := false) (by kernel_rfl)).here (wpAny_pure ?_)))
 unfold Builtin.ObjectAttr.ownThenClass Builtin.ObjectAttr.inOwnDict Builtin.ObjectAttr.ownDict
 dsimp only
 obtain ⟨oc, od, oda, os⟩ := o
 obtain ⟨hc1, hc2, hc3⟩ := hc
 cases (hc1 : oc = _)
 cases (hc2 : od = _)
 cases (hdt : oda = _)
 refine wpAny_bind (wpAny_bind ?_)
 refine wpAny_bind (wpAny_loadPart hd ?_)
 show wpAny _ _ (instanceDict d false) _ _ _
 unfold instanceDict
 refine wpAny_bind (wpAny_loadPart hd ?_)
 refine wpAny_pure ?_
 refine wpAny_pure ?_
 dsimp only
 refine wpAny_bind (wpAny_pure ?_)
 refine wpAny_bind (wpAny_rule (wpAny_pure ?_))
 show wpAny _ _ (Builtin.ObjectAttr.bindTo _ _ _ _) _ _ _
 unfold Builtin.ObjectAttr.bindTo
 dsimp only
 refine wpAny_bind (wpAny_holding ?_)
 refine wpAny_call_entry slot_md_get (self := .builtin "set.__contains__") ?_ entry_md_get ?_ ?_
 ·exact type_set_ct
 ·unfold Builtin.«method_descriptor.__get__»
  refine wpAny_bind (wpAny_of_eq (a := (.builtin "set.__contains__", some (.ref d), some (.type "set"))) (by rfl) ?_)
  dsimp only
  refine wpIfN (by decide +kernel) ?_
  refine wpAny_bind ?_
  refine wpAny_bind (wpAny_of_eq (a := (Str.ofString "__contains__", .type "set")) (by kernel_rfl) ?_)
  refine wpAny_bind (wpAny_isInstance (hT _) sub_set_set ?_)
  refine wpIfN (by decide) ?_
  refine wpAny_pure ?_
  refine wpAny_bind (wpAny_newObj_type ?_)
  refine wpAny_pure ⟨_, rfl, wpAny_pure ⟨_, rfl, ?_⟩⟩
  exact wpAny_pure (h _)
 ·unfold argsOk; kernel_rfl
end
end
end
section
noncomputable section
noncomputable def bmO (d : Addr) : Obj := { cls := .type "builtin_function_or_method", data := .fields #[.builtin "set.__contains__", .ref d] }
theorem sig_ct {d : Addr} {x : Str} {t : Tok} : (Manifest.signature? "set.__contains__").map (fun sg => Bind.checkArgs "set.__contains__" { sg with full := s!"{Bind.lastOf "set"}.{Bind.lastOf "set.__contains__"}" } ⟨[.ref d, .str x t], []⟩) = some (pure ()) := by kernel_rfl
theorem kind_ct : builtinKind "set.__contains__" = some .method := by kernel_rfl
theorem var_ct : Manifest.varargsMethods.contains "set.__contains__" = false := by decide +kernel
theorem sub_ct : isSubtype (.type "set") (.type "module") = pure false := by rw [isSubtype_type]; kernel_rfl
theorem check_ct {w : World} {A : Around} {E : Value → Shared → Prop} {s : Shared} {Q : Unit → Shared → Prop} {x : Str} {t : Tok} {d : Addr} {ob : Obj} {es : Array (Int × Value)} {ep : Nat} {tb : SetTable} (g : s.heap.get? d = some ob) (hc : ob.cls = .type "set") (hd : ob.data = .set es ep tb) (h : Q () s) :
  wpAny (model prg w) A (checkBoundCall "set.__contains__" ⟨[.ref d, .str x t], []⟩) Q E s := by
 have hT : s.TypeIs (.ref d) "set" := ⟨_, g, hc⟩
 have hsg := sig_ct (d := d) (x := x) (t := t)
 unfold checkBoundCall
 cases hs : Manifest.signature? "set.__contains__" with
 | none => rw [hs] at hsg; cases hsg
 | some sg =>
  rw [hs] at hsg
  have hsg' := Option.some.inj hsg
  rw [kind_ct]
  simp only [var_ct]
  refine wpAny_bind (wpAny_isInstance hT sub_ct ?_)
  rw [if_neg (by decide)]
  refine wpAny_bind ?_
  show wpAny _ _ (loadHead d >>= fun o => pure (match o.data with | .cls _ => true | _ => false)) _ _ _
  refine wpAny_bind (wpAny_loadPart g (wpAny_pure ?_))
  rw [hd]
  show wpAny _ _ (do let cls ← typeOf (.ref d); _) _ _ _
  refine wpAny_bind (wpAny_typeOf hT ?_)
  exact wpAny_of_eq hsg' h
theorem quiet_ct (a : Args) : (Code.builtin "set.__contains__" a).quiet = true := plainId_quiet (by decide +kernel) _
section
variable {c : Cx} {L : AL} {H : AH} {R : List (Addr × Obj)} {s : Shared} {Q : AV → AH → Prop}
open Builtin Builtin.Frozenset in
theorem CallW.inSet {bm d : Addr} {ws : List W} {w : W} (hb : H bm = some (.raw (bmO d))) (hd : SetAt c H d ws) (h : Q (.bool (ws.contains w)) H) : CallW c (.ref bm) [.str (Mine.Internal.S w)] L H Q := by
 rintro _ (_ | ⟨⟨t, rfl⟩, _ | _⟩) R s S'
 obtain ⟨o, n, gd, hs, hn⟩ := hd
 obtain ⟨_, g1, _, _, rfl, _⟩ := S'.hp _ _ hb
 obtain ⟨_, g2, _, _, rfl, _⟩ := S'.hp _ _ gd
 have hS := hs.setOf g2 hn
 obtain ⟨hex, es, ep, tb, hdt, _⟩ := id hs
 refine wpAny_call (codeAny_of_tree ?_)
 show wpAny _ c.d.A.in1 (callAny (.ref bm) ⟨[.str (Mine.Internal.S w) t], []⟩) _ _ s
 simp only [callAny]
 refine wpAny_bind (wpAny_load g1 ?_)
 simp only [bmO, show (Value.type "builtin_function_or_method" == Value.type "method" || Value.type "builtin_function_or_method" == Value.type "builtin_function_or_method" || Value.type "builtin_function_or_method" == Value.type "method-wrapper") = true by decide, if_true]
 show wpAny _ _ (if (Value.type "builtin_function_or_method" != Value.type "method") = true then _ else _) _ _ _
 rw [if_pos (by decide)]
 refine wpAny_bind (check_ct g2 hex.1 hdt ?_)
 refine wpAny_bind (wpAny_pure (wpAny_pure ?_))
 refine ⟨quiet_ct _, codeAny_builtin entry_set_contains ?_⟩
 rw [Around.under_plainId (by decide +kernel) _]
 unfold Builtin.«frozenset.__contains__» Builtin.Frozenset.oneOther
 simp only [List.isEmpty_nil, bind_assoc]
 unfold Builtin.Frozenset.addrOf Builtin.Frozenset.withSetAsKey setContains
 refine wpAny_bind (wpAny_pure ?_)
 try dsimp only
 refine wpAny_bind (wpAny_pure ?_)
 try dsimp only
 refine wpAny_bind (wpAny_tryCatch ?_)
 refine wpAny_holding ?_
 refine wpAny_bind ((strKind prg c.d.w).pyHash (k := Mine.Internal.S w) (strKind_is _ _ _ _) ?_)
 refine wpAny_bind (wpAny_setFind_of (knd := strKind prg c.d.w) (s := { s with toks := s.toks + 1 }) (strKind_is _ _ _ _) rfl hS fun r hr => ?_)
 refine wpAny_pure ?_
 show wpAny _ _ (ret (Value.bool r.isSome)) _ _ _
 rw [hr]
 refine wpAny_pure ⟨.bool _, H, rfl, S'.toks, ?_⟩
 have e : (ws.map Mine.Internal.S).contains (Mine.Internal.S w) = ws.contains w := by
  rw [Bool.eq_iff_iff, List.contains_iff_mem, List.contains_iff_mem, List.mem_map]
  exact ⟨fun ⟨v, hv, e⟩ => S_inj e ▸ hv, fun hv => ⟨w, hv, rfl⟩⟩
 rw [e]; exact h
end
section
variable {prog : Program} {w : World} {A : Around} {E : Value → Shared → Prop} {s : Shared}
theorem spItem {it l : Addr} {i : Nat} {items : Array Value} {x : Value} {Q : Option Value → Shared → Prop} (hit : s.heap.IsListIter it l i) (hl : s.heap.IsList l items) (hx : items[i]? = some x)
  (hQ : ∀ h', h'.IsListIter it l (i + 1) → Heap.SameBut it s.heap h' → Q (some x) { s with heap := h' }) : wpAny (model prog w) A (callSpecial? (.ref it) (Str.ofString "__next__")) Q E s := by
 obtain ⟨o, ho, hc, hd⟩ := id hit
 obtain ⟨ol, hol, _, nl, hdl⟩ := hl
 refine wpAny_callSpecial?_slot (name := Str.ofString "__next__") hit.typeIs slot_listiter_next (wpAny_call_entry slot_listiter_next hit.typeIs entry_listiter_next ?_ (args_listiter_next _))
 show wpAny _ _ (field (.ref it) 0 >>= _) _ _ s
 refine wpAny_bind (wpAny_field ho hd (x := .ref l) rfl ?_)
 show wpAny _ _ (if (Value.ref l == Value.none) = true then _ else _) _ _ s
 rw [if_neg (show ¬ ((Value.ref l == Value.none) = true) from Bool.false_ne_true)]
 show wpAny _ _ (field (.ref it) 1 >>= _) _ _ s
 refine wpAny_bind (wpAny_field ho hd (x := .int i 0) rfl ?_)
 show wpAny _ _ (seqItems? (.ref l) >>= _) _ _ s
 refine wpAny_bind (wpAny_seqItems hol hdl ?_)
 simp only [Int.toNat_natCast, hx]
 refine wpAny_bind (wpAny_setField ho hd (by simp) (wpAny_pure ⟨x, rfl, hQ _ ?_ (Heap.SameBut.update ..)⟩))
 exact ⟨_, Heap.get?_update_self _ ho (Obj.isFreed_of_fields (Obj.data_mapFields hd _)), (Obj.cls_mapFields ..).trans hc, by
  rw [Obj.data_mapFields hd]; simp [rawInt]⟩
theorem spEnd {it l : Addr} {i : Nat} {items : Array Value} {Q : Option Value → Shared → Prop} (hh : A.handled = none) (hit : s.heap.IsListIter it l i) (hl : s.heap.IsList l items) (hx : items[i]? = none)
  (hE : ∀ h' e, Heap.ExtBut it s.heap h' → (∃ o, h'.get? e = some o ∧ o.cls = .type "StopIteration") → E (.ref e) { s with heap := h' }) : wpAny (model prog w) A (callSpecial? (.ref it) (Str.ofString "__next__")) Q E s := by
 obtain ⟨o, ho, hc, hd⟩ := id hit
 obtain ⟨ol, hol, _, nl, hdl⟩ := hl
 refine wpAny_callSpecial?_slot (name := Str.ofString "__next__") hit.typeIs slot_listiter_next (wpAny_call_entry slot_listiter_next hit.typeIs entry_listiter_next ?_ (args_listiter_next _))
 show wpAny _ _ (field (.ref it) 0 >>= _) _ _ s
 refine wpAny_bind (wpAny_field ho hd (x := .ref l) rfl ?_)
 show wpAny _ _ (if (Value.ref l == Value.none) = true then _ else _) _ _ s
 rw [if_neg (show ¬ ((Value.ref l == Value.none) = true) from Bool.false_ne_true)]
 show wpAny _ _ (field (.ref it) 1 >>= _) _ _ s
 refine wpAny_bind (wpAny_field ho hd (x := .int i 0) rfl ?_)
 show wpAny _ _ (seqItems? (.ref l) >>= _) _ _ s
 refine wpAny_bind (wpAny_seqItems hol hdl ?_)
 simp only [Int.toNat_natCast, hx]
 refine wpAny_bind (wpAny_rule (wpAny_bind (wpAny_setField ho hd (by simp) ?_)))
 show wpAny _ _ (newExc (.type "StopIteration") [] >>= _) _ _ _
 refine wpAny_bind ?_
 simp only [newExc, newTuple]
 refine wpAny_bind (wpAny_newObj_type ?_ (by size_fits))
 refine wpAny_bind (m := firstArgMember _ _) (wpAny_of_eq (a := Value.none) (by first | rfl | (simp only [firstArgMember]; rfl)) ?_)
 refine wpAny_newObj_type ?_ (by size_fits)
 simp only [raiseNew]
 refine wpAny_bind (wpAny_handled ?_)
 rw [show A.in1.handled = none from hh]
 exact wpAny_bind (wpAny_pure (wpAny_throw (hE _ _ (((Heap.SameBut.update ..).extBut.push _).push _) ⟨_, Heap.get?_push_size _ rfl, rfl⟩)))
end
theorem slot_filter_iter : Slot "filter" "__iter__" "filter.__iter__" :=
 .of (owner := "filter") (n := "__iter__") (by rw [typeLookup_type, builtinLookup_eq_fast]; kernel_rfl) (by decide +kernel) (by decide +kernel) (by decide +kernel) (.inl (by decide +kernel)) (by rw [isSubtype_type]; kernel_rfl)
theorem slot_filter_next : Slot "filter" "__next__" "filter.__next__" :=
 .of (owner := "filter") (n := "__next__") (by rw [typeLookup_type, builtinLookup_eq_fast]; kernel_rfl) (by decide +kernel) (by decide +kernel) (by decide +kernel) (.inl (by decide +kernel)) (by rw [isSubtype_type]; kernel_rfl)
theorem slot_filter_init : Slot "filter" "__init__" "object.__init__" :=
 .of (owner := "object") (n := "__init__") (by rw [typeLookup_type, builtinLookup_eq_fast]; kernel_rfl) (by decide +kernel) (by decide +kernel) (by decide +kernel) (.inl (by decide +kernel)) (by rw [isSubtype_type]; kernel_rfl)
theorem owner_filter : Manifest.owners.lookup (String.ofList ['r', 'e', 't', 'l', 'i', 'f'].reverse) = some Manifest.sig_filter := by kernel_rfl
theorem args_filter_iter (a : Value) : argsOk "filter.__iter__" ⟨[a], []⟩ := by
 unfold argsOk; rw [signature?_of (id := "filter.__iter__") (n := ['_', '_', 'r', 'e', 't', 'i', '_', '_']) (o := ['r', 'e', 't', 'l', 'i', 'f']) (by kernel_rfl) owner_filter]; kernel_rfl
theorem args_filter_next (a : Value) : argsOk "filter.__next__" ⟨[a], []⟩ := by
 unfold argsOk; rw [signature?_of (id := "filter.__next__") (n := ['_', '_', 't', 'x', 'e', 'n', '_', '_']) (o := ['r', 'e', 't', 'l', 'i', 'f']) (by kernel_rfl) owner_filter]; kernel_rfl
theorem entry_filter_next : entryFor table "filter.__next__" = some Builtin.«filter.__next__» := entryFor_of_tree (by kernel_rfl)
theorem entry_filter_new : entryFor table "filter.__new__" = some Builtin.«filter.__new__» := entryFor_of_tree (by kernel_rfl)
theorem entry_filter_iter : entryFor table "filter.__iter__" = some Builtin.«dict_keyiterator.__iter__» :=
 entryFor_alias (id' := "dict_keyiterator.__iter__") (by kernel_rfl) (by first | rfl | decide +kernel | (unfold String.splitOn; simp +decide [String.splitOnAux])) (by decide +kernel) (by kernel_rfl)
theorem mro_filter : mroOf (.type "filter") = pure [.type "filter", .type "object"] := by rw [mroOf_type]; kernel_rfl
theorem lookup_filter_new : typeLookup (.type "filter") "__new__" = pure (some (.builtin "filter.__new__")) := by rw [typeLookup_type, builtinLookup_eq_fast]; kernel_rfl
theorem called_filter : TypeCalled "filter" "filter.__new__" "object.__init__" :=
 ⟨by decide +kernel, by decide +kernel, ⟨_, _, mro_filter⟩, madeBy_type mro_filter lookup_filter_new (by decide +kernel), by decide +kernel, by rw [isSubtype_type]; kernel_rfl, slot_filter_init⟩
theorem typeCall_filter_2 (a b : Value) : checkTypeCall "filter" ⟨[a, b], []⟩ = pure () := by kernel_rfl
theorem newCall_filter_2 (a b : Value) : checkBuiltinCall "filter.__new__" ⟨[.type "filter", a, b], []⟩ = pure () := by kernel_rfl
theorem sub_filter : isSubtype (.type "filter") (.type "filter") = pure true := by rw [isSubtype_type]; kernel_rfl
theorem nolen_filter : typeLookup (.type "filter") "__len__" = pure none := by rw [typeLookup_type, builtinLookup_eq_fast]; kernel_rfl
theorem nohint_filter : typeLookup (.type "filter") "__length_hint__" = pure none := by rw [typeLookup_type, builtinLookup_eq_fast]; kernel_rfl
noncomputable def filO (f : Value) (it : Addr) : Obj := { cls := .type "filter", data := .fields #[f, .ref it] }
theorem meets_filter_new (f : Value) (l : Addr) (xs : Array Value) :
  Meets (Builtin.«filter.__new__» ⟨[.type "filter", f, .ref l], []⟩) (fun _ R s => s.heap.IsList l xs ∧
   R (.ok (.ret (.ref (s.heap.push (liO l 0)).objs.size))) { s with heap := (s.heap.push (liO l 0)).push (filO f s.heap.objs.size) }) :=
 .of_wp fun prog w A R s h => by
  obtain ⟨hp, g, d, tk, os⟩ := s; obtain ⟨hl1, h⟩ := h
  have hsub := sub_filter
  have hL1 : Heap.IsList (Shared.heap ⟨hp, g, d, tk, os⟩) l xs := hl1
  wp_walk using wpAny_pyIter_list hL1
  exact ⟨_, rfl, h⟩
section
variable {c : Cx} {L : AL} {H : AH} {R : List (Addr × Obj)} {s : Shared} {Q : AV → AH → Prop}
theorem CallW.filter {l f : Addr} {xs : List AV} (hl : H l = some (.list xs)) (h : ∀ it fm, H it = none → H fm = none → it ≠ fm → Q (.ref fm) (hset (hset H it (.raw (liO l 0))) fm (.raw (filO (.ref f) it)))) : CallW c (.type "filter") [.ref f, .ref l] L H Q := by
 rintro _ (_ | ⟨rfl, _ | ⟨rfl, _ | _⟩⟩) R s S
 obtain ⟨vs, hv, hL⟩ := isL S hl
 refine callType_new called_filter (by decide) (typeCall_filter_2 _ _) (newCall_filter_2 _ _) (fun obj => F.args_object_init_3 obj _ _) entry_filter_new (meets_filter_new (.ref f) l vs.toArray) ⟨hL, ?_⟩
 obtain ⟨n1, S1⟩ := S.push (ao := .raw (liO l 0)) (o := liO l 0) ⟨rfl, rfl⟩
 obtain ⟨n2, S2⟩ := S1.push (ao := .raw (filO (.ref f) s.heap.objs.size)) (o := filO (.ref f) s.heap.objs.size) ⟨rfl, rfl⟩
 dsimp only at n2
 have e12 : s.heap.objs.size ≠ (s.heap.push (liO l 0)).objs.size := fun q => by rw [← q, hset_same] at n2; cases n2
 exact ⟨⟨_, Heap.get?_push_size _ rfl, rfl⟩, .ref _, _, rfl, S2, h _ _ n1 (hset_none n2) e12⟩
end
end
end
section
noncomputable section
section
variable {c : Cx} {L : AL} {H : AH} {R : List (Addr × Obj)} {s : Shared} {Q : AV → AH → Prop}
theorem ItTy.filter {fm it : Addr} {f : Value} {c : Cx} {H : AH} {L : AL} (h : H fm = some (.raw (filO f it))) : ItTy c fm (.type "filter") H L := by
 have hT : ∀ {R s}, Sim c L H R s → s.TypeIs (.ref fm) "filter" := fun S => by
  obtain ⟨_, g3, _, _, rfl, _⟩ := S.hp _ _ h
  exact ⟨_, g3, rfl⟩
 refine ⟨fun S q => wpAny_typeOf (hT S) q, fun S q => ?_, fun S q => wpAny_specialOf (hT S) nolen_filter q, fun S q => wpAny_specialOf (hT S) nohint_filter q, by decide, by decide⟩
 refine wpAny_pyIter_slot (hT S) slot_filter_iter (wpAny_call_entry slot_filter_iter (hT S) entry_filter_iter ?_ (args_filter_iter _))
 show wpAny _ _ (ret (.ref fm)) _ _ _
 exact wpAny_pure ⟨_, rfl, "filter", _, hT S, slot_filter_next.lookup, q _ S⟩
noncomputable def FilRR (c : Cx) (L : AL) (R : List (Addr × Obj)) (P : Option AV → AH → Prop) : Result → Shared → Prop
 | .ok (.ret v), s' => ∃ a H', VRel a v ∧ Sim c L H' R s' ∧ P (some a) H'
 | .ok _, _ => False
 | .error e, s' => (∃ oe x, e = .ref x ∧ s'.heap.get? x = some oe ∧ oe.cls = .type "StopIteration") ∧ ∃ H', Sim c L H' R s' ∧ P none H'
theorem filCode {fm bm d it l : Addr} {ws us : List W} {P : Option AV → AH → Prop} (hroom : 2 ≤ c.d.room) (h3 : H fm = some (.raw (filO (.ref bm) it))) (hb : H bm = some (.raw (bmO d))) (hd : SetAt c H d ws) (hl : H l = some (.list (us.map fun w => AV.str (S w))))
  (n1 : fm ≠ it) (n2 : bm ≠ it) (n3 : d ≠ it) (n4 : l ≠ it) :
  ∀ (k i : Nat) (o : Obj), k = us.length - i → i ≤ us.length → o.cls = .type "list_iterator" → o.data = .fields #[.ref l, .int i 0] →
   (∀ j x ob, i ≤ j → us[j]? = some x → ws.contains x = true → (∀ m, i ≤ m → m < j → ∀ y, us[m]? = some y → ws.contains y = false) → ob.cls = .type "list_iterator" → ob.data = .fields #[.ref l, .int ((j + 1 : Nat) : Int) 0] → P (some (.str (S x))) (hset H it (.raw ob))) →
   ((∀ m, i ≤ m → ∀ y, us[m]? = some y → ws.contains y = false) → P none (hdel H it)) →
   ∀ s, Sim c L (hset H it (.raw o)) R s → wpAny (model prg c.d.w) c.d.A.in1 (Builtin.«filter.__next__» ⟨[.ref fm], []⟩) (fun fin s' => match fin with | .done f => FilRR c L R P (.ok f) s' | .again c' => c'.quiet = true ∧ codeAny (model prg c.d.w) c.d.A c' (FilRR c L R P) s') (fun e s' => FilRR c L R P (.error e) s') s := by
 intro k
 induction k with
 | zero =>
  intro i o hk hi ho1 ho2 hP hE s S'
  obtain ⟨_, g3, _, _, rfl, _⟩ := S'.hp _ _ ((hset_ne n1).trans h3)
  obtain ⟨ob1, g1, _, _, eo, _⟩ := S'.hp _ _ (hset_same H it (.raw o))
  rw [eo] at g1
  obtain ⟨vs, hv, hL⟩ := isL S' ((hset_ne n4).trans hl)
  have hvl := hv.length
  rw [List.length_map] at hvl
  show wpAny _ _ (field (.ref fm) 0 >>= _) _ _ _
  refine wpAny_bind (wpAny_field g3 rfl (x := .ref bm) rfl ?_)
  refine wpAny_bind (wpAny_field g3 rfl (x := .ref it) rfl ?_)
  refine wpAny_bind (spEnd S'.ok.handled ⟨_, g1, ho1, ho2⟩ hL (by simp; omega) fun h' e' hs he => ?_)
  obtain ⟨oe, hoe, hce⟩ := he
  obtain ⟨o', hr, g, hR, S1⟩ := S'.toR (hset_same H it (.raw o))
  have S2 := S1.endR (tk := s.toks) hR hs
  have e : (fun b => if b = it then none else hset H it (.raw o) b) = hdel H it := funext fun b => by
   unfold hdel
   by_cases q : b = it
   ·rw [if_pos q, if_pos q]
   ·rw [if_neg q, if_neg q, hset_ne q]
  rw [e] at S2
  refine ⟨⟨oe, e', rfl, hoe, hce⟩, _, S2, hE fun m hm y hy => ?_⟩
  have := (List.getElem?_eq_some_iff.mp hy).1
  omega
 | succ k ih =>
  intro i o hk hi ho1 ho2 hP hE s S'
  obtain ⟨_, g3, _, _, rfl, _⟩ := S'.hp _ _ ((hset_ne n1).trans h3)
  obtain ⟨ob1, g1, _, _, eo, _⟩ := S'.hp _ _ (hset_same H it (.raw o))
  rw [eo] at g1
  obtain ⟨vs, hv, hL⟩ := isL S' ((hset_ne n4).trans hl)
  have hlt : i < us.length := by omega
  obtain ⟨x, hx⟩ : ∃ x, us[i]? = some x := ⟨_, List.getElem?_eq_getElem hlt⟩
  obtain ⟨v, hv1, t, rfl⟩ := hv.get (i := i) (a := .str (S x)) (by rw [List.getElem?_map, hx]; rfl)
  show wpAny _ _ (field (.ref fm) 0 >>= _) _ _ _
  refine wpAny_bind (wpAny_field g3 rfl (x := .ref bm) rfl ?_)
  refine wpAny_bind (wpAny_field g3 rfl (x := .ref it) rfl ?_)
  refine wpAny_bind (spItem ⟨_, g1, ho1, ho2⟩ hL (by simpa using hv1) fun h' hit hs => ?_)
  obtain ⟨o', g1', hc', hd'⟩ := hit
  have S1 : Sim c L (hset H it (.raw o')) R { s with heap := h' } := by
   have := S'.put (tk := s.toks) (ao' := .raw o') (hset_same H it (.raw o)) (fun b ob hb e => (hs.2 b hb).trans e) g1' ⟨rfl, Obj.isFreed_of_fields hd'⟩
   rwa [hset_hset] at this
  refine wpAny_bind (wpAny_holding ?_)
  refine wpIfN (fun h => nomatch (show false = true from h)) ?_
  obtain ⟨od, nn, gd, hso, hn⟩ := hd
  refine wpAny_bind ((CallW.inSet (c := c.to c.d.A.in1) (Q := fun v H' => v = .bool (ws.contains x) ∧ H' = hset H it (.raw o')) (bm := bm) (d := d) (ws := ws) (w := x) ((hset_ne n2).trans hb) ⟨od, nn, (hset_ne n3).trans gd, hso, hn⟩ ⟨rfl, rfl⟩ [.str (S x) t] (.cons ⟨t, rfl⟩ .nil)).run (S1.to (Near.in1 _) (by omega)) fun r ar H2 s2 hr S2 q => ?_)
  obtain ⟨rfl, rfl⟩ := q
  cases hr
  refine wpAny_holding (wpAny_truthy_bool ?_)
  have S3 := S1.off S2
  cases hc : ws.contains x with
  | true =>
   rw [if_pos rfl]
   refine wpAny_pure ⟨.str (S x), _, ⟨t, rfl⟩, S3, hP i x o' (Nat.le_refl _) hx hc (fun m h1 h2 => by omega) hc' hd'⟩
  | false =>
   rw [if_neg (by decide)]
   refine wpAny_pure ⟨plainId_quiet (by decide +kernel) _, codeAny_builtin entry_filter_next ?_⟩
   rw [Around.under_plainId (by decide +kernel) _]
   refine ih (i + 1) o' (by omega) hlt hc' hd' (fun j y ob hj hy hcy hno h1 h2 => hP j y ob (by omega) hy hcy (fun m h3 h4 z hz => ?_) h1 h2) (fun hno => hE fun m h3 z hz => ?_) s2 S3
   ·rcases Nat.lt_or_ge i m with q | q
    ·exact hno m q h4 z hz
    ·have : m = i := by omega
     subst this
     rw [hx] at hz; cases hz; exact hc
   ·rcases Nat.lt_or_ge i m with q | q
    ·exact hno m q z hz
    ·have : m = i := by omega
     subst this
     rw [hx] at hz; cases hz; exact hc
theorem NxW.filter {fm bm d it l : Addr} {i : Nat} {ws us : List W} {P : Option AV → AH → Prop} (hroom : 2 ≤ c.d.room) (hli : LiAt H it l i) (hi : i ≤ us.length) (h3 : H fm = some (.raw (filO (.ref bm) it))) (hb : H bm = some (.raw (bmO d))) (hd : SetAt c H d ws) (hl : H l = some (.list (us.map fun w => AV.str (S w))))
  (hP : ∀ j x ob, i ≤ j → us[j]? = some x → ws.contains x = true → (∀ m, i ≤ m → m < j → ∀ y, us[m]? = some y → ws.contains y = false) → ob.cls = .type "list_iterator" → ob.data = .fields #[.ref l, .int ((j + 1 : Nat) : Int) 0] → P (some (.str (S x))) (hset H it (.raw ob)))
  (hE : (∀ m, i ≤ m → ∀ y, us[m]? = some y → ws.contains y = false) → P none (hdel H it)) : NxW c fm L H P := by
 intro R s S'
 obtain ⟨o, h1, ho1, ho2⟩ := hli
 have n1 : fm ≠ it := fun q => by rw [q, h1] at h3; cases h3; simp [filO] at ho1
 have n2 : bm ≠ it := fun q => by rw [q, h1] at hb; cases hb; simp [bmO] at ho1
 have n3 : d ≠ it := fun q => by
  obtain ⟨od, nn, gd, hso, _⟩ := hd
  rw [q, h1] at gd; cases gd
  have := hso.1.1
  rw [ho1] at this; simp at this
 have n4 : l ≠ it := fun q => by rw [q, h1] at hl; cases hl
 obtain ⟨_, g3, _, _, rfl, _⟩ := S'.hp _ _ h3
 have hT : s.TypeIs (.ref fm) "filter" := ⟨_, g3, rfl⟩
 have eh : hset H it (.raw o) = H := funext fun b => by
  by_cases q : b = it
  ·rw [q, hset_same, h1]
  ·rw [hset_ne q]
 have S2 : Sim c L (hset H it (.raw o)) R s := by rw [eh]; exact S'
 unfold pyNext
 refine wpAny_bind (wpAny_attempt (wpAny_callSpecial?_slot (name := Str.ofString "__next__") hT slot_filter_next ?_))
 refine wpAny_call (codeAny_mono (codeAny_call_builtin (R := FilRR c L R P) slot_filter_next.plain entry_filter_next (slot_filter_next.check _ _ _ _ _ _ _ _ hT (args_filter_next _) (filCode hroom h3 hb hd hl n1 n2 n3 n4 _ i o rfl hi ho1 ho2 hP hE s S2))) fun r s' q => ?_)
 cases r with
 | ok f =>
  cases f with
  | ret v =>
   obtain ⟨a, H', hv, S3, q⟩ := q
   exact wpAny_pure ⟨some a, H', ⟨v, rfl, hv⟩, S3, q⟩
  | _ => exact q.elim
 | error e =>
  obtain ⟨⟨oe, x, ex, hx, hcx⟩, H', S3, q⟩ := q
  subst ex
  exact wpAny_bind (wpAny_isInstance (T := "StopIteration") (b := true) ⟨oe, hx, hcx⟩ isSubtype_stop (wpAny_pure ⟨none, H', rfl, S3, q⟩))
end
end
end
section
noncomputable section
section
variable {c : Cx} {L : AL} {H : AH} {R : List (Addr × Obj)} {s : Shared} {Q : AV → AH → Prop}
theorem list_codes {it : Addr} {T : Value} {P : Value → Shared → Prop} (S : Sim c L H R s) (hroom : 2 ≤ c.d.room) (hit : H it ≠ none) (I : Nat → List AV → AH → Prop) (En : List AV → List (Addr × Obj) → Shared → Prop)
  (ht : ∀ A, Near c.d.A A → ItTy (c.to A) it T H L)
  (turn : ∀ A, Near c.d.A A → ∀ n ys H, I n ys H → ys.length ≤ 900000 ∧ NxE (c.to A) it L H (fun a H' => ∃ m, m < n ∧ I m (ys ++ [a]) H') (En ys))
  {n : Nat} (hI : I n [] H) (fin : ∀ D s' ys vs k, (∀ p ∈ R, p.1 ≠ D) → VRels ys vs → En ys ((D, listOf vs.toArray k) :: R) s' → P (.ref D) s') : wpAny (model prg c.d.w) c.d.A (call (.type "list") [.ref it]) P nE s := by
 obtain ⟨hR, S1⟩ := S.pushR (o := listOf #[] 0) rfl
 have hDit : s.heap.objs.size ≠ it := fun q => by
  cases h : H it with
  | none => exact hit h
  | some ao => obtain ⟨o, g, _⟩ := S.hp _ _ h; rw [← q, newAt] at g; cases g
 refine callType_codes (T := "list") (Bi := Builtin.«list.__init__») (Q₁ := fun r s₁ => r = .ref s.heap.objs.size ∧ s₁ = { s with heap := s.heap.push (listOf #[] 0) }) PySem.F.called_list (PySem.F.typeCall_list_1 _) PySem.F.entry_list_init (code_list_new _ ⟨rfl, rfl⟩) ?_
 rintro obj s₁ ⟨rfl, rfl⟩
 have g0 : (s.heap.push (listOf #[] 0)).get? s.heap.objs.size = some (listOf #[] 0) := Heap.get?_push_size _ rfl
 refine ⟨⟨_, g0, rfl⟩, PySem.F.args_list_init_2 _ _, ?_⟩
 show wpAny _ c.d.A.in1.in1 (do let old ← Builtin.List.listItems (.ref s.heap.objs.size); Builtin.List.listUpdate (.ref s.heap.objs.size) (fun _ => #[]); letGo old.toList.reverse; Builtin.List.listExtendWith (.ref s.heap.objs.size) (.ref it) .none) _ _ _
 refine wpAny_bind ?_
 unfold Builtin.List.listItems
 refine wpAny_bind (wpAny_seqItems g0 rfl (wpAny_pure ?_))
 show wpAny _ _ (updateSeq s.heap.objs.size (fun _ => #[]) >>= fun _ => letGo (#[] : Array Value).toList.reverse >>= fun _ => Builtin.List.listExtendWith (.ref s.heap.objs.size) (.ref it) .none) _ _ _
 refine wpAny_bind (wpAny_updateSeq g0 rfl ?_ (Nat.zero_le _) (Nat.zero_le _))
 obtain ⟨k1, e1⟩ := mapSeq_list (fun _ => (#[] : Array Value)) #[] 0
 have S2 : Sim c L H ((s.heap.objs.size, listOf #[] k1) :: R) { s with heap := (s.heap.push (listOf #[] 0)).update s.heap.objs.size (Obj.mapSeq (fun _ => #[])) } :=
  S1.setR (tk := s.toks) hR (Heap.SameBut.update ..) (by rw [Heap.get?_update_self _ g0 (by rw [e1]; rfl), e1])
 refine wpAny_bind (wpAny_letGo ?_)
 have nr := Near.in2 c.d.A
 exact extWith (c := c.to c.d.A.in1.in1) (A0 := c.d.A.in1) rfl (ht _ nr) hDit I En hR (turn _ nr) (fun s' ys vs' k' hv' q => ⟨rfl, fin _ s' ys vs' k' hR hv' q⟩) hI (vs := []) .nil (S2.to nr (by omega))
theorem CallW.listIt {it : Addr} {T : Value} (hroom : 2 ≤ c.d.room) (hit : H it ≠ none) (I : Nat → List AV → AH → Prop) (Fin : List AV → AH → Prop)
  (ht : ∀ A, Near c.d.A A → ItTy (c.to A) it T H L)
  (turn : ∀ A, Near c.d.A A → ∀ n ys H, I n ys H → ys.length ≤ 900000 ∧ NxW (c.to A) it L H fun oa H' => match oa with | none => Fin ys H' | some a => ∃ m, m < n ∧ I m (ys ++ [a]) H')
  {n : Nat} (hI : I n [] H) (fin : ∀ ys H' D, Fin ys H' → H' D = none → Q (.ref D) (hset H' D (.list ys))) : CallW c (.type "list") [.ref it] L H Q := by
 rintro _ (_ | ⟨rfl, _ | _⟩) R s S
 refine list_codes S hroom hit I (fun ys R s' => ∃ H', Sim c L H' R s' ∧ Fin ys H') ht (fun A nr n ys H h => ⟨(turn A nr n ys H h).1, fun R1 s1 S1 => wpAny_mono ((turn A nr n ys H h).2.toE R1 s1 S1) (fun r s' q => q.imp_left fun z => by obtain ⟨e, H', S', q⟩ := z; exact ⟨e, H', S.off S', q⟩) fun _ _ x => x⟩) hI fun D s' ys vs k hR hv hx0 => ?_
 obtain ⟨H', S', hf⟩ := hx0
 have hn : H' D = none := S'.sep _ (.head _)
 exact ⟨.ref _, _, rfl, S'.ofR (ao := .list ys) (.head _) ⟨vs, k, rfl, hv⟩ fun p hp => ⟨.tail _ hp, hR p hp⟩, fin ys H' _ hf hn⟩
end
end
end
section
set_option maxHeartbeats 4000000
noncomputable section
theorem f93 (P) : (Kf P).lookup 93 = some (fnO (topS 5) (o "merge_entries") .none (.str (o "cpy313.urllib.robotparser") 331) (.ref 92)) := by rfl
theorem g93 (P) : codeIn (Kf P) (.ref 92) (o "merge_entries") = true := rfl
theorem takeFilter {p : W → Bool} {us : List W} : ∀ (n i : Nat), (∀ m, i ≤ m → m < i + n → ∀ y, us[m]? = some y → p y = false) → (us.take (i + n)).filter p = (us.take i).filter p
 | 0, i, _ => rfl
 | n + 1, i, h => by
  have ih := takeFilter (p := p) (us := us) n i fun m h1 h2 => h m h1 (by omega)
  rw [← Nat.add_assoc, List.take_add_one, List.filter_append, ih]
  cases hy : us[i + n]? with
  | none => simp
  | some y => simp [h (i + n) (by omega) (by omega) y hy]
section
variable {c : Cx} {L : AL} {H : AH} {Q : AV → AH → Prop}
theorem GetW.ct {d : Addr} {o : Obj} {n : Nat} {K : Str → Bool} (hd : H d = some (.raw o)) (hs : o.SetObjOf (strKind prg c.d.w) K n) (h : ∀ bm, H bm = none → Q (.ref bm) (hset H bm (.raw (bmO d)))) : GetW c (.ref d) (Str.ofString "__contains__") L H Q := by
 rintro _ rfl R s S
 obtain ⟨_, g, _, _, rfl, _⟩ := S.hp _ _ hd
 obtain ⟨hex, es, ep, tb, hdt, _⟩ := id hs
 refine get_contains g hex hdt fun tk => ?_
 obtain ⟨e, S2⟩ := S.push (ao := .raw (bmO d)) (o := bmO d) ⟨rfl, rfl⟩
 exact ⟨.ref _, _, rfl, S2.toks, h _ e⟩
inductive B93 (x1 x2 : Addr) (H : AH) (L1 : AL) (H1 : AH) (x dx : Addr) (e : List (Str × AV)) (Hd : AH) : Prop
 | mk' (l1 : L1 (o "e1") = some (.ref x1)) (l2 : L1 (o "e2") = some (.ref x2)) (l3 : L1 (o "entry") = some (.ref x)) (w : Own Hd [(dx, .dict e)] H1) (k : HLe H Hd) (g : Hd x = some (.inst 82 dx))
inductive P93 (H : AH) (xs : List Addr) (r : Row) (a : AV) (H' : AH) : Prop
 | mk' (x dx ua rl : Addr) (dv rv : AV) (e : a = .ref x) (le : HLe H H') (g : H' x = some (.inst 82 dx)) (gd : H' dx = some (.dict (eDict ua rl dv rv))) (gu : H' ua = some (.list (r.agents.map fun p => .str (S p.1)))) (gr : H' rl = some (.list (r.rules.map (ruleV xs)))) (ed : dv = delayV r) (hr : RateV H' rv r.rates) (n1 : H ua = none) (n2 : H rl = none) (ne : ua ≠ rl)
inductive S93 (x1 x2 : Addr) (H : AH) (L1 : AL) (H1 : AH) : Prop
 | mk' (x dx : Addr) (Hd : AH) (ua rl : Addr) (b : B93 x1 x2 H L1 H1 x dx (eDict ua rl .none .none) Hd)
inductive T93 (x1 x2 x dx rl : Addr) (r : Row) (H : AH) (L1 : AL) (H1 : AH) : Prop
 | mk' (Hd : AH) (ua : Addr) (b : B93 x1 x2 H L1 H1 x dx (eDict ua rl .none .none) Hd) (g : Hd ua = some (.list (r.agents.map fun p => .str (S p.1)))) (n : H ua = none)
inductive J93 (us ws : List W) (it ua dx : Addr) (Hz : AH) (e : List (Str × AV)) (m : Nat) (ys : List AV) (Hx : AH) : Prop
 | mk' (i : Nat) (em : m = us.length - i) (hi : i ≤ us.length) (hli : LiAt Hx it ua i) (k : HLe Hz Hx) (g : Hx dx = some (.dict e)) (hs : ∀ a, (∀ p ∈ [(it, AObj.raw (liO ua 0)), (dx, .dict e)], p.1 ≠ a) → Hx a = Hz a) (ey : ys = ((us.take i).filter fun x => ws.contains x).map fun w => AV.str (S w))
theorem c93 {xs : List Addr} {x1 x2 : Addr} {r1 r2 : Row} (hroom : 4 ≤ c.d.room) (h1 : RecAt H xs x1 r1) (h2 : RecAt H xs x2 r2) (ok1 : RowOk r1) (ok2 : RowOk r2) (hinj : ∀ a ∈ r1.agents, ∀ b ∈ r2.agents, a.1 = b.1 → a = b) :
  CodeW c (.ref 93) [.ref x1, .ref x2] [] [] L H (P93 H xs (wholeP r1 r2)) := by
 generalize hQ : (P93 H xs (wholeP r1 r2)) = Q
 refine CodeW.enterP (ns := [o "e1", o "e2"]) (bas := [.ref x1, .ref x2]) (f93 _) (g93 _) (by first | exact room_1 hroom tt | omega) (fun vs ws hv hw => ?_) (by rfl) (by rfl) (by rfl) (by rfl) (by rfl) fun d hrm _ Pf hPf => ?_
 ·exact bind2 hv fun _ _ _ _ => BindsTo.of_eq (by rfl)
 conv in fBody _ => whnf
 obtain ⟨dx1, e1, gx1, gd1, ua1, rl1, dv1, rv1, rfl, gua1, grl1, rfl, hr1⟩ := h1
 obtain ⟨dx2, e2, gx2, gd2, ua2, rl2, dv2, rv2, rfl, gua2, grl2, rfl, hr2⟩ := h2
 have a1 := ok1.count
 have a2 := ok2.count
 generalize hL0 : bindA [o "e1", o "e2"] [.ref x1, .ref x2] = L0
 have l1 : L0 (o "e1") = some (.ref x1) := by rw [← hL0]; rfl
 have l2 : L0 (o "e2") = some (.ref x2) := by rw [← hL0]; rfl
 clear hL0
 with_reducible refine SS.seq (S93 x1 x2 H) (fun _ hPs => ?_) ?_
 ·repeat walk_at "f"
  refine (newEntry (by first | exact room_le hroom hrm tt | exact room_le hroom hr tt | (show 2 ≤ d.room; omega))).mono fun v H1 h => ?_
  obtain ⟨x, dx, ua, rl, rfl, k1, g1, g2, n2⟩ := h
  repeat walk_at "f"
  refine ⟨rfl, x, dx, _, ua, rl, by walk_at "lk", by walk_at "lk", by walk_at "lk", (Own.nil H1).take g2, HLe.del n2 k1, ?_⟩
  rw [hdel_ne fun q => by rw [q, g2] at g1; cases g1]; exact g1
 clear l1 l2 L0
 rintro L1 H1 ⟨x, dx, Hd, ua0, rl0, hb⟩
 obtain ⟨l1, l2, l3, w, k1, gx⟩ := hb
 with_reducible refine SS.seq (T93 x1 x2 x dx rl0 (wholeP r1 r2) H) (fun _ hPs => ?_) ?_
 ·refine ST.assignA ?_
  repeat walk_at "f"
  refine GetW.own (a := .ref ua2) (w.le _ _ (k1 _ _ gx2)) (w.le _ _ (k1 _ _ gd2)) rfl (own82_ua _) ?_
  repeat walk_at "f"
  refine CallW.strSet (ws := r2.agents.map (·.1)) (by rw [List.map_map]; exact w.le _ _ (k1 _ _ gua2)) (by rw [List.length_map]; exact leD a2.1 tt) fun sd os sn n1 hs hn => ?_
  have w1 := w.alloc (o := .raw os) n1
  have u1 := w.back n1
  refine GetW.ct (hset_same _ _ _) hs fun bm n2 => ?_
  have w2 := w1.alloc (o := .raw (bmO sd)) n2
  have u2 := w1.back n2
  have k2 := HLe.put (o := .raw (bmO sd)) u2 (HLe.new (o := .raw os) u1)
  repeat walk_at "f"
  refine GetW.own (a := .ref ua1) (w2.le _ _ (k2 _ _ (k1 _ _ gx1))) (w2.le _ _ (k2 _ _ (k1 _ _ gd1))) rfl (own82_ua _) ?_
  repeat walk_at "f"
  refine CallW.filter (w2.le _ _ (k2 _ _ (k1 _ _ gua1))) fun it fm n3 n4 ne => ?_
  have w3 := w2.alloc (o := .raw (liO ua1 0)) n3
  have u3 := w2.back n3
  have n4' : hset (hset (hset H1 sd (.raw os)) bm (.raw (bmO sd))) it (.raw (liO ua1 0)) fm = none := (hset_ne (Ne.symm ne)).trans n4
  have w4 := w3.alloc (o := .raw (filO (.ref bm) it)) n4'
  have u4 := w3.back n4'
  repeat walk_at "f"
  obtain ⟨us, hus⟩ : ∃ us : List W, us = r1.agents.map (·.1) := ⟨_, rfl⟩
  obtain ⟨ws, hws⟩ : ∃ ws : List W, ws = r2.agents.map (·.1) := ⟨_, rfl⟩
  rw [← hws] at hs
  have husl : us.length ≤ 60 := by rw [hus, List.length_map]; exact a1.1
  generalize hHz : hdel (hset (hset (hset (hset Hd sd (.raw os)) bm (.raw (bmO sd))) it (.raw (liO ua1 0))) fm (.raw (filO (.ref bm) it))) it = Hz
  have zit : Hz it = none := by rw [← hHz]; exact hdel_self _ _
  have zd : ∀ a ao, a ≠ it → hset (hset (hset (hset Hd sd (.raw os)) bm (.raw (bmO sd))) it (.raw (liO ua1 0))) fm (.raw (filO (.ref bm) it)) a = some ao → Hz a = some ao := fun a ao q e => by rw [← hHz, hdel_ne q]; exact e
  have k4 := HLe.put (o := .raw (filO (.ref bm) it)) u4 (HLe.new (o := .raw (liO ua1 0)) u3)
  have zk : ∀ a ao, hset (hset Hd sd (.raw os)) bm (.raw (bmO sd)) a = some ao → Hz a = some ao := fun a ao e => zd a ao (fun q => by rw [q, u3] at e; cases e) (k4 _ _ e)
  have zH : HLe Hd Hz := fun a ao e => zk _ _ (k2 _ _ e)
  have z1 : Hz ua1 = some (.list (us.map fun w => AV.str (S w))) := by rw [hus, List.map_map]; exact zH _ _ (k1 _ _ gua1)
  have z2 : Hz bm = some (.raw (bmO sd)) := zk _ _ (hset_same _ _ _)
  have z3 : Hz sd = some (.raw os) := zk _ _ (hset_old u2 (hset_same _ _ _))
  have z4 : Hz fm = some (.raw (filO (.ref bm) it)) := zd _ _ (Ne.symm ne) (hset_same _ _ _)
  have wz := w4.take (a := it) (x := .raw (liO ua1 0)) (hset_old u4 (hset_same _ _ _))
  rw [hHz] at wz
  generalize hset (hset (hset (hset H1 sd (.raw os)) bm (.raw (bmO sd))) it (.raw (liO ua1 0))) fm (.raw (filO (.ref bm) it)) = H4 at wz w4
  refine CallW.listIt (T := .type "filter") (n := us.length) (by first | exact room_le hroom hrm tt | exact room_le hroom hr tt | (show 2 ≤ d.room; omega)) (by rw [wz.le _ _ z4]; exact fun q => nomatch q)
   (J93 us ws it ua1 dx Hz (eDict ua0 rl0 .none .none))
   (fun ys Hx => Own Hz [(dx, .dict (eDict ua0 rl0 .none .none))] Hx ∧ ys = (us.filter fun x => ws.contains x).map fun w => AV.str (S w))
   (fun A nr => ItTy.filter (f := .ref bm) (it := it) (wz.le _ _ z4)) ?_ ?_ ?_
  ·rintro A nr m ys Hx ⟨i, rfl, hi, hli, kz, gdx, hsame, rfl⟩
   refine ⟨by rw [List.length_map]; exact Nat.le_trans (List.length_filter_le _ _) (by rw [List.length_take]; exact leD (Nat.le_trans (Nat.min_le_right ..) husl) tt), ?_⟩
   have ndx : dx ≠ it := fun q => by
    have h1 := wz.nd
    simp at h1
    exact h1 q.symm
   refine NxW.filter (us := us) (ws := ws) (by show 2 ≤ d.room - 1; omega) hli hi (kz _ _ z4) (kz _ _ z2) ⟨os, sn, kz _ _ z3, hs, hn⟩ (kz _ _ z1) (fun j y ob hj hy hc hno ho1 ho2 => ?_) fun hno => ?_
   ·have hjl := (List.getElem?_eq_some_iff.mp hy).1
    refine ⟨us.length - (j + 1), Nat.sub_lt_sub_left (Nat.lt_of_le_of_lt hj hjl) (Nat.lt_succ_of_le hj), j + 1, rfl, hjl, ⟨ob, hset_same _ _ _, ho1, ho2⟩, HLe.mut zit kz, (hset_ne ndx).trans gdx, fun a ha => ?_, ?_⟩
    ·rw [hset_ne fun q => ha (it, .raw (liO ua1 0)) (.head _) q.symm]; exact hsame a ha
    ·have := takeFilter (p := fun x => ws.contains x) (us := us) (j - i) i fun m h1 h2 z hz => hno m h1 (by omega) z hz
     rw [Nat.add_sub_cancel' hj] at this
     rw [List.take_add_one, hy, List.filter_append, this, List.map_append]
     have ef : List.filter (fun x => ws.contains x) [y] = [y] := by rw [List.filter_cons, hc, if_pos rfl]; rfl
     show _ = _ ++ List.map _ (List.filter (fun x => ws.contains x) [y])
     rw [ef]; rfl
   ·refine ⟨⟨fun p hp => ?_, fun p hp => ?_, fun a ha => ?_, by simp⟩, ?_⟩
    ·rw [List.mem_singleton.mp hp, hdel_ne ndx]; exact gdx
    ·rw [List.mem_singleton.mp hp]; exact wz.non _ (.tail _ (.head _))
    ·by_cases q : a = it
     ·rw [q, hdel_self, zit]
     ·rw [hdel_ne q]
      refine hsame a fun p hp => ?_
      rcases List.mem_cons.mp hp with rfl | hp
      ·exact fun z => q z.symm
      ·exact ha p hp
    ·have := takeFilter (p := fun x => ws.contains x) (us := us) (us.length - i) i fun m h1 h2 z hz => hno m h1 z hz
     rw [Nat.add_sub_cancel' hi, List.take_length] at this
     rw [this]
  ·exact ⟨0, rfl, Nat.zero_le _, ⟨_, wz.get _ (.head _), rfl, rfl⟩, wz.le, wz.get _ (.tail _ (.head _)), wz.same, rfl⟩
  ·rintro ys Hx D ⟨wx, rfl⟩ hD
   have w5 := wx.alloc (o := .list ((us.filter fun x => ws.contains x).map fun w => AV.str (S w))) hD
   have u5 := wx.back hD
   repeat walk_at "f"
   refine SetW.own (w5.le _ _ (hset_old u5 (zH _ _ gx))) (w5.get _ (.head _)) (set82_ua _) (by exact Nat.le_of_ble_eq_true tt) ?_
   have w6 := w5.put0 (y := .dict (putA (Str.ofString "useragents") (.ref D) (eDict ua0 rl0 .none .none)))
   repeat walk_at "f"
   refine ⟨rfl, _, D, ⟨l1, l2, l3, w6, HLe.put u5 (k1.trans zH), hset_old u5 (zH _ _ gx)⟩, ?_, (k1.trans zH).back u5⟩
   rw [hset_same]
   have e : (wholeP r1 r2).agents.map (fun p => AV.str (S p.1)) = ((wholeP r1 r2).agents.map (·.1)).map fun w => AV.str (S w) := by rw [List.map_map]; rfl
   rw [e]
   have e2 : (wholeP r1 r2).agents.map (·.1) = us.filter fun x => ws.contains x := by
    rw [hus, hws]
    show (r1.agents.filter fun a => r2.agents.contains a).map (·.1) = _
    rw [List.filter_map]
    congr 1
    refine List.filter_congr fun a ha => ?_
    rw [Bool.eq_iff_iff, List.contains_iff_mem]
    show _ ↔ (r2.agents.map (·.1)).contains a.1 = true
    rw [List.contains_iff_mem, List.mem_map]
    exact ⟨fun h => ⟨a, h, rfl⟩, fun z => by obtain ⟨b, hb, e⟩ := z; exact hinj a ha b hb e.symm ▸ hb⟩
   rw [e2]
 clear w k1 gx l1 l2 l3 Hd L1 H1
 rintro L1 H1 ⟨Hd, ua, hb, gua, hua⟩
 obtain ⟨l1, l2, l3, w, k1, gx⟩ := hb
 have dl : ∀ {r : Row}, (delayV r).isBlt = false := fun {r} => by unfold delayV; split <;> rfl
 have rb : ∀ {H v rs}, RateV H v rs → v.isBlt = false := fun {H v rs} h => by
  unfold RateV at h
  cases q : rs.getLast? with
  | none => rw [q] at h; rw [h]; rfl
  | some p => rw [q] at h; obtain ⟨rr, dr, es, e, _⟩ := h; rw [e]; rfl
 repeat walk_at "f"
 refine GetW.own (a := .ref rl1) (w.le _ _ (k1 _ _ gx1)) (w.le _ _ (k1 _ _ gd1)) rfl (own82_rl _) ?_
 repeat walk_at "f"
 refine GetW.own (a := .ref rl2) (w.le _ _ (k1 _ _ gx2)) (w.le _ _ (k1 _ _ gd2)) rfl (own82_rl _) ?_
 refine OpW.addL (w.le _ _ (k1 _ _ grl1)) (w.le _ _ (k1 _ _ grl2)) (by rw [List.length_map, List.length_map]; exact addD a1.2 a2.2 tt) fun rl n1 => ?_
 have w1 := w.alloc (o := .list (r1.rules.map (ruleV xs) ++ r2.rules.map (ruleV xs))) n1
 have u1 := w.back n1
 have k2 := HLe.new (o := .list (r1.rules.map (ruleV xs) ++ r2.rules.map (ruleV xs))) u1
 have kk := k1.trans k2
 have gua' := k2 _ _ gua
 have gx' := k2 _ _ gx
 have grl : hset Hd rl (.list (r1.rules.map (ruleV xs) ++ r2.rules.map (ruleV xs))) rl = some (.list ((wholeP r1 r2).rules.map (ruleV xs))) := by rw [hset_same]; show _ = some (AObj.list ((r1.rules ++ r2.rules).map _)); rw [List.map_append]
 have hrl : H rl = none := k1.back u1
 have nul : ua ≠ rl := fun q => by rw [q, u1] at gua; cases gua
 generalize hset Hd rl (.list (r1.rules.map (ruleV xs) ++ r2.rules.map (ruleV xs))) = Hd2 at w1 kk gua' gx' grl
 generalize hset H1 rl (.list (r1.rules.map (ruleV xs) ++ r2.rules.map (ruleV xs))) = H2 at w1
 clear k2 u1 n1 w gua gx k1
 repeat walk_at "f"
 refine SetW.own (w1.le _ _ gx') (w1.get _ (.head _)) (set82_rl _) (by exact Nat.le_of_ble_eq_true tt) ?_
 have w2 : Own Hd2 [(dx, .dict (eDict ua rl .none .none))] _ := w1.put0 (y := .dict (putA (Str.ofString "rulelines") (.ref rl) (eDict ua rl0 .none .none)))
 generalize hset H2 dx (.dict (putA (Str.ofString "rulelines") (.ref rl) (eDict ua rl0 .none .none))) = H3 at w2
 have edl : (if (delayV r2).isNone = true then delayV r1 else delayV r2) = delayV (wholeP r1 r2) := by
  unfold delayV
  show _ = (match (r1.delays ++ r2.delays).getLast? with | some d => AV.int d | none => .none)
  cases h2 : r2.delays.getLast? with
  | none => rw [List.getLast?_eq_none_iff.mp h2, List.append_nil]; rfl
  | some v => rw [List.getLast?_append, h2]; rfl
 have err : ∃ rv, rv = (if rv2.isNone = true then rv1 else rv2) ∧ RateV H rv (wholeP r1 r2).rates := by
  refine ⟨_, rfl, ?_⟩
  unfold RateV at hr1 hr2 ⊢
  show match (r1.rates ++ r2.rates).getLast? with | none => _ | some p => _
  cases h2 : r2.rates.getLast? with
  | none =>
   rw [h2] at hr2
   replace hr2 : rv2 = .none := hr2
   subst hr2
   rw [show (if AV.none.isNone = true then rv1 else AV.none) = rv1 from rfl, List.getLast?_eq_none_iff.mp h2, List.append_nil]
   exact hr1
  | some v =>
   rw [h2] at hr2
   obtain ⟨rr, dr, es, rfl, hh⟩ := hr2
   rw [show (if (AV.ref rr).isNone = true then rv1 else AV.ref rr) = AV.ref rr from rfl, List.getLast?_append, h2]
   exact ⟨rr, dr, es, rfl, hh⟩
 obtain ⟨rv, erv, hrv⟩ := err
 refine SS.cons (ST.assignA (TW.mono (Q := fun a H' => a = delayV (wholeP r1 r2) ∧ H' = H3) ?_ fun a H' h => ?_))
 ·repeat walk_at "f"
  refine GetW.own (a := delayV r2) (w2.le _ _ (kk _ _ gx2)) (w2.le _ _ (kk _ _ gd2)) rfl (own82_dl _) ?_ dl
  repeat walk_at "f"
  refine CmpW.isN dl ?_
  repeat walk_at "f"
  split
  ·rename_i h
   rw [if_pos h] at edl
   repeat walk_at "f"
   exact GetW.own (a := delayV r1) (w2.le _ _ (kk _ _ gx1)) (w2.le _ _ (kk _ _ gd1)) rfl (own82_dl _) ⟨edl, rfl⟩ dl
  ·rename_i h
   rw [if_neg h] at edl
   repeat walk_at "f"
   exact GetW.own (a := delayV r2) (w2.le _ _ (kk _ _ gx2)) (w2.le _ _ (kk _ _ gd2)) rfl (own82_dl _) ⟨edl, rfl⟩ dl
 obtain ⟨rfl, rfl⟩ := h
 repeat walk_at "f"
 refine SetW.own (w2.le _ _ gx') (w2.get _ (.head _)) (set82_dl _) (by exact Nat.le_of_ble_eq_true tt) ?_
 have w3 : Own Hd2 [(dx, .dict (eDict ua rl (delayV (wholeP r1 r2)) .none))] _ := w2.put0 (y := .dict (putA (Str.ofString "delay") (delayV (wholeP r1 r2)) (eDict ua rl .none .none)))
 generalize hset H' dx (.dict (putA (Str.ofString "delay") (delayV (wholeP r1 r2)) (eDict ua rl .none .none))) = H4 at w3
 refine SS.cons (ST.assignA (TW.mono (Q := fun a H' => a = rv ∧ H' = H4) ?_ fun a H' h => ?_))
 ·repeat walk_at "f"
  refine GetW.own (a := rv2) (w3.le _ _ (kk _ _ gx2)) (w3.le _ _ (kk _ _ gd2)) rfl (own82_rr _) ?_ (rb hr2)
  repeat walk_at "f"
  refine CmpW.isN (rb hr2) ?_
  repeat walk_at "f"
  split
  ·rename_i h
   rw [if_pos h] at erv
   repeat walk_at "f"
   exact GetW.own (a := rv1) (w3.le _ _ (kk _ _ gx1)) (w3.le _ _ (kk _ _ gd1)) rfl (own82_rr _) ⟨erv.symm, rfl⟩ (rb hr1)
  ·rename_i h
   rw [if_neg h] at erv
   repeat walk_at "f"
   exact GetW.own (a := rv2) (w3.le _ _ (kk _ _ gx2)) (w3.le _ _ (kk _ _ gd2)) rfl (own82_rr _) ⟨erv.symm, rfl⟩ (rb hr2)
 obtain ⟨rfl, rfl⟩ := h
 repeat walk_at "f"
 refine SetW.own (w3.le _ _ gx') (w3.get _ (.head _)) (set82_rr _) (by exact Nat.le_of_ble_eq_true tt) ?_
 have w4 : Own Hd2 [(dx, .dict (eDict ua rl (delayV (wholeP r1 r2)) a))] _ := w3.put0 (y := .dict (putA (Str.ofString "req_rate") a (eDict ua rl (delayV (wholeP r1 r2)) .none)))
 generalize hset H' dx (.dict (putA (Str.ofString "req_rate") a (eDict ua rl (delayV (wholeP r1 r2)) .none))) = H5 at w4
 repeat walk_at "f"
 rw [← hQ]
 exact ⟨x, dx, ua, rl, _, a, rfl, kk.trans w4.le, w4.le _ _ gx', w4.get _ (.head _), w4.le _ _ gua', w4.le _ _ grl, rfl, hrv.mono (kk.trans w4.le), hua, hrl, nul⟩
end
end
end
section
set_option maxHeartbeats 4000000
noncomputable section
theorem f879 (P) : (Kf P).lookup 879 = some (fnO (topS 41) (o "_law_written") .none (.str (o "law_oy0424_01") 1358) (.ref 878)) := by rfl
theorem g879 (P) : codeIn (Kf P) (.ref 878) (o "_law_written") = true := rfl
section
variable {c : Cx} {L : AL} {H : AH}
theorem strRec {n : Nat} {xs : List Addr} {rows : List Row} {x : Addr} {row : Row} (hroom : 4 * n + 1 ≤ c.d.room) (hrec : RecAt H xs x row) (hall : All2 (RecAt H xs) xs rows) (hf : Fit n rows row) : CallW c (.type "str") [.ref x] L H (fun a H' => HLe H H' ∧ a = .str (S (strOf n rows row))) := by
 obtain ⟨dx, e, gx, gd, _⟩ := id hrec
 refine CallW.strO gx gd (str82 _) (fn65 _) (by omega) fun A nr => ?_
 exact (CallKW.toCall (CodeW.toKW (c65 n (c := Cx.to c A) (by show 4 * n ≤ c.d.room - 1; omega) hrec hall hf))).mono fun v H' h => by
  obtain ⟨k, rfl⟩ := h
  exact ⟨_, rfl, k, rfl⟩
inductive M879 (n : Nat) (rows : List Row) (rl : Addr) (H : AH) (k : Nat) (L1 : AL) (H1 : AH) : Prop
 | mk' (Hd : AH) (pg : Addr) (l1 : L1 (o "records") = some (.ref rl)) (l2 : L1 (o "pages") = some (.ref pg)) (w : Own Hd [(pg, .list (((pairsP.take k).filterMap (pairR rows)).map fun w => .str (S (strOf n rows w))))] H1) (le : HLe H Hd)
inductive J879 (n : Nat) (rows : List Row) (pg : Addr) (Hd2 : AH) (k : Nat) (ys : List AV) (H4 : AH) : Prop
 | mk' (Hd4 : AH) (w : Own Hd4 [(pg, .list ((wholesP rows).map fun w => AV.str (S (strOf n rows w))))] H4) (le : HLe Hd2 Hd4) (e : ys = ((rows.take 3).take k).map fun w => AV.str (S (strOf n rows w)))
inductive P879 (H : AH) (ws : List AV) (a : AV) (H' : AH) : Prop
 | mk' (le : HLe H H') (y : Addr) (e : a = .ref y) (g : H' y = some (.list ws))
theorem c879 {ra : AV} {n : Nat} {rows : List Row} (hroom : 4 * n + 8 ≤ c.d.room) (hrecs : RecsAt H ra rows) (h3 : 3 ≤ rows.length) (h60 : rows.length ≤ 60) (hok : ∀ r ∈ rows, RowOk r) (hfit : ∀ w ∈ wholesP rows ++ rows.take 3, Fit n rows w) (hinj : ∀ r1 ∈ rows, ∀ r2 ∈ rows, ∀ a ∈ r1.agents, ∀ b ∈ r2.agents, a.1 = b.1 → a = b) :
  CodeW c (.ref 879) [ra] [] [] L H (P879 H ((wholesP rows ++ rows.take 3).map fun w => .str (S (strOf n rows w)))) := by
 generalize hQ : (P879 H ((wholesP rows ++ rows.take 3).map fun w => .str (S (strOf n rows w)))) = Q
 refine CodeW.enterP (ns := [o "records"]) (bas := [ra]) (f879 _) (g879 _) (by first | exact room_1 hroom tt | omega) (fun vs ws hv hw => ?_) (by rfl) (by rfl) (by rfl) (by rfl) (by rfl) fun d hrm _ Pf hPf => ?_
 ·exact bind1 hv fun _ _ _ => BindsTo.of_eq (by rfl)
 conv in fBody _ => whnf
 obtain ⟨rl, xs, rfl, grl, hall⟩ := hrecs
 have hxl := hall.length
 generalize hL0 : bindA [o "records"] [.ref rl] = L0
 have l0 : L0 (o "records") = some (.ref rl) := by rw [← hL0]; rfl
 clear hL0
 with_reducible refine SS.seq (M879 n rows rl H 0) (fun _ hPs => ?_) ?_
 ·repeat walk_at "f"
  refine ⟨Nat.le_of_ble_eq_true tt, fun pg h1 => ?_⟩
  repeat walk_at "f"
  exact ⟨rfl, H, pg, by walk_at "lk", by walk_at "lk", (Own.nil H).add h1, HLe.rfl⟩
 clear l0 L0
 intro L1 H1 hm
 obtain ⟨Hd, pg, l1, l2, w, k1⟩ := hm
 with_reducible refine SS.seq (M879 n rows rl H 4) (fun _ hPs => ?_) ?_
 ·refine ST.forP ?_
  repeat walk_at "f"
  refine (CallW.own w (CallKW.toCall (CodeW.toKW (c869 (c := ⟨d, (fScope (topS 41)).names, []⟩) (by first | exact room_le hroom hrm tt | exact room_le hroom hr tt | (show 1 ≤ d.room; omega)))))).mono fun v H2 h2 => ?_
  obtain ⟨Hd2, ⟨k2, px, pvs, rfl, gv, hv⟩, w2⟩ := h2
  refine ⟨_, _, IterW.list (w2.le _ _ gv), M879 n rows rl Hd2, ⟨Hd2, pg, l1, l2, w2, HLe.rfl⟩, ?_, ?_, ?_⟩
  ·rintro k L3 H3 ⟨Hd3, _, _, _, w3, k3⟩
   exact w3.le _ _ (k3 _ _ gv)
  ·rintro k x L3 H3 hx Pk hPk ⟨Hd3, pg3, f1, f2, w3, k3⟩
   have kH : HLe H Hd3 := k1.trans (k2.trans k3)
   obtain ⟨⟨pi, pj⟩, hp, ax, rfl, gax⟩ := hv.getL hx
   have hpm := pairsP_mem _ (List.mem_of_getElem? hp)
   obtain ⟨ra, hra⟩ : ∃ r, rows[pi.toNat]? = some r := ⟨_, List.getElem?_eq_getElem (tn3 hpm.1 h3)⟩
   obtain ⟨rb, hrb⟩ : ∃ r, rows[pj.toNat]? = some r := ⟨_, List.getElem?_eq_getElem (tn3 hpm.2 h3)⟩
   obtain ⟨xa, hxa, reca⟩ := hall.getR hra
   obtain ⟨xb, hxb, recb⟩ := hall.getR hrb
   have ma := List.mem_of_getElem? hra
   have mb := List.mem_of_getElem? hrb
   have hxl2 : (xs.map AV.ref).length ≤ 1000000 := by rw [List.length_map, hxl]; exact leD h60 tt
   have hFp : pairR rows (pi, pj) = some (wholeP ra rb) := pairR_eq hra hrb
   have hwm : wholeP ra rb ∈ wholesP rows ++ rows.take 3 := List.mem_append_left _ (List.mem_filterMap.mpr ⟨_, List.mem_of_getElem? hp, hFp⟩)
   refine AsW.tup (w3.le _ _ (k3 _ _ gax)) (by rfl) ?_
   refine d_ae ?_
   repeat walk_at "f"
   refine d_ae ?_
   repeat walk_at "f"
   refine AsEach.nil ?_
   repeat walk_at "f"
   refine SbW.list (w3.le _ _ (kH _ _ grl)) hpm.1.1 (by rw [List.getElem?_map, hxa]; rfl) hxl2 ?_
   repeat walk_at "f"
   refine SbW.list (w3.le _ _ (kH _ _ grl)) hpm.2.1 (by rw [List.getElem?_map, hxb]; rfl) hxl2 ?_
   repeat walk_at "f"
   refine (CallW.own w3 (CallKW.toCall (CodeW.toKW (c93 (c := ⟨d, (fScope (topS 41)).names, []⟩) (by first | exact room_le hroom hrm tt | exact room_le hroom hr tt | (show 4 ≤ d.room; omega)) (reca.mono kH) (recb.mono kH) (hok _ ma) (hok _ mb) (hinj _ ma _ mb))))).mono fun v H4 h4 => ?_
   obtain ⟨Hd4, ⟨x, dx, ua, rl', dv, rv, rfl, k4, gx, gd, gua, grl', rfl, hrv, n1, n2, nn⟩, w4⟩ := h4
   repeat walk_at "f"
   refine ⟨⟨⟨_, w4.get _ (.head _)⟩, rfl⟩, ?_⟩
   repeat walk_at "f"
   refine (CallW.own w4 (strRec (c := ⟨d, (fScope (topS 41)).names, []⟩) (n := n) (xs := xs) (rows := rows) (row := wholeP ra rb) (by show 4 * n + 1 ≤ d.room; omega) ⟨dx, _, gx, gd, ua, rl', _, rv, rfl, gua, grl', rfl, hrv⟩ (hall.mono fun _ _ => RecAt.mono (kH.trans k4)) (hfit _ hwm))).mono fun v H5 h5 => ?_
   obtain ⟨Hd5, ⟨k5, rfl⟩, w5⟩ := h5
   repeat walk_at "f"
   refine CallW.append (w5.get _ (.head _)) (by rw [List.length_map]; exact Nat.le_trans (List.length_filterMap_le _ _) (by rw [List.length_take]; exact Nat.le_trans (Nat.min_le_right _ _) (by decide))) ?_
   have w6 := w5.put0 (y := .list ((((pairsP.take k).filterMap (pairR rows)).map fun w => AV.str (S (strOf n rows w))) ++ [.str (S (strOf n rows (wholeP ra rb)))]))
   have et : (((pairsP.take k).filterMap (pairR rows)).map fun w => AV.str (S (strOf n rows w))) ++ [.str (S (strOf n rows (wholeP ra rb)))] = ((pairsP.take (k + 1)).filterMap (pairR rows)).map fun w => AV.str (S (strOf n rows w)) := by
    rw [List.take_add_one, hp, List.filterMap_append, List.map_append]
    congr 1
    show _ = List.map _ (List.filterMap (pairR rows) [(pi, pj)])
    rw [List.filterMap_cons, hFp]; rfl
   rw [et] at w6 ⊢
   generalize hset H5 pg3 (.list (((pairsP.take (k + 1)).filterMap (pairR rows)).map fun w => AV.str (S (strOf n rows w)))) = H6 at w6
   have k35 : HLe Hd3 Hd5 := k4.trans k5
   have w7 := (w6.take (k5 _ _ gua))
   have nx : ∀ {a ao}, Hd4 a = some ao → (∀ l, ao ≠ .list l) → hdel Hd5 ua a = some ao := fun {a ao} e h => (hdel_ne fun q => by rw [q, gua] at e; cases e; exact h _ rfl).trans (k5 _ _ e)
   have k37 : HLe Hd3 (hdel Hd5 ua) := HLe.del n1 k35
   repeat walk_at "f"
   refine GetW.own (a := .ref ua) (w7.le _ _ (nx gx fun l q => nomatch q)) (w7.le _ _ (nx gd fun l q => nomatch q)) rfl (own82_ua _) ?_
   repeat walk_at "f"
   refine ⟨⟨⟨_, w7.get _ (.head _)⟩, rfl⟩, ?_⟩
   repeat walk_at "f"
   have cu : (wholeP ra rb).agents.length ≤ 60 := Nat.le_trans (List.length_filter_le _ _) (hok _ ma).count.1
   have cr : (wholeP ra rb).rules.length ≤ 120 := by show (ra.rules ++ rb.rules).length ≤ 120; rw [List.length_append]; exact addD (hok _ ma).count.2 (hok _ mb).count.2 tt
   refine CallW.append (w7.get _ (.head _)) (by rw [List.length_map]; exact leD cu tt) ?_
   have w8 := (w7.put0 (y := .list (((wholeP ra rb).agents.map fun p => AV.str (S p.1)) ++ [.str (S (lit "fig"))]))).settle
   generalize hset H6 ua (.list (((wholeP ra rb).agents.map fun p => AV.str (S p.1)) ++ [.str (S (lit "fig"))])) = H8 at w8
   have k38 := HLe.mut (o := .list (((wholeP ra rb).agents.map fun p => AV.str (S p.1)) ++ [.str (S (lit "fig"))])) n1 k37
   have nx2 : ∀ {a ao}, Hd4 a = some ao → (∀ l, ao ≠ .list l) → hset (hdel Hd5 ua) ua (.list (((wholeP ra rb).agents.map fun p => AV.str (S p.1)) ++ [.str (S (lit "fig"))])) a = some ao := fun {a ao} e h => (hset_ne fun q => by rw [q, gua] at e; cases e; exact h _ rfl).trans (nx e h)
   have g8 : hset (hdel Hd5 ua) ua (.list (((wholeP ra rb).agents.map fun p => AV.str (S p.1)) ++ [.str (S (lit "fig"))])) rl' = some (.list ((wholeP ra rb).rules.map (ruleV xs))) := (hset_ne (Ne.symm nn)).trans ((hdel_ne (Ne.symm nn)).trans (k5 _ _ grl'))
   generalize hset (hdel Hd5 ua) ua (.list (((wholeP ra rb).agents.map fun p => AV.str (S p.1)) ++ [.str (S (lit "fig"))])) = Hd8 at w8 k38 nx2 g8
   have w9 := w8.take g8
   have nx3 : ∀ {a ao}, Hd4 a = some ao → (∀ l, ao ≠ .list l) → hdel Hd8 rl' a = some ao := fun {a ao} e h => (hdel_ne fun q => by rw [q, grl'] at e; cases e; exact h _ rfl).trans (nx2 e h)
   repeat walk_at "f"
   refine GetW.own (a := .ref rl') (w9.le _ _ (nx3 gx fun l q => nomatch q)) (w9.le _ _ (nx3 gd fun l q => nomatch q)) rfl (own82_rl _) ?_
   repeat walk_at "f"
   refine ⟨⟨⟨_, w9.get _ (.head _)⟩, rfl⟩, ?_⟩
   repeat walk_at "f"
   refine CallW.append (w9.get _ (.head _)) (by rw [List.length_map]; exact leD cr tt) ?_
   have w10 := (w9.put0 (y := .list ((wholeP ra rb).rules.map (ruleV xs) ++ [.str (S (lit "Allow: fig"))]))).settle
   repeat walk_at "f"
   refine ⟨trivial, _, pg3, by walk_at "lk", by walk_at "lk", w10, k3.trans (HLe.mut n2 (HLe.del n2 k38))⟩
  ·rintro L3 H3 ⟨Hd3, pg3, f1, f2, w3, k3⟩
   rw [hv.length] at w3
   repeat walk_at "f"
   exact ⟨rfl, Hd3, pg3, f1, f2, w3, k1.trans (k2.trans k3)⟩
 clear l1 l2 w k1 Hd pg L1 H1
 intro L1 H1 hm
 obtain ⟨Hd, pg, l1, l2, w, k1⟩ := hm
 have ewh : (pairsP.take 4).filterMap (pairR rows) = wholesP rows := rfl
 rw [ewh] at w
 repeat walk_at "f"
 refine EW.comp (cl := []) (clo (by with_unfolding_all rfl)) ?_
 refine EW.subTo (k := 3) ?_
 refine EW.name (by with_unfolding_all rfl) l1 ?_
 refine ⟨rl, xs.map .ref, rfl, w.le _ _ (k1 _ _ grl), by rw [List.length_map, hxl]; exact leD h60 tt, fun E hE => ?_⟩
 have w2 := w.alloc (o := .list ((xs.map AV.ref).take 3)) hE
 have hEd := w.back hE
 have k2 := k1.trans (HLe.new (o := .list ((xs.map AV.ref).take 3)) hEd)
 have gE : hset Hd E (.list ((xs.map AV.ref).take 3)) E = some (.list ((xs.map AV.ref).take 3)) := hset_same _ _ _
 generalize hset Hd E (.list ((xs.map AV.ref).take 3)) = Hd2 at w2 k2 gE
 generalize hset H1 E (.list ((xs.map AV.ref).take 3)) = H2 at w2
 have hvl : (wholesP rows).length ≤ 4 := Nat.le_trans (List.length_filterMap_le ..) (by decide)
 refine ⟨_, _, IterW.list (w2.le _ _ gE), by rw [List.length_take]; omega, J879 n rows pg Hd2, ⟨Hd2, w2, HLe.rfl, rfl⟩, ?_, ?_, ?_⟩
 ·rintro k ys H4 ⟨Hd4, w4, k4, _⟩
  exact w4.le _ _ (k4 _ _ gE)
 ·rintro d2 hrm2 _ k x ys L8 H4 hx Pk Pn hPk ⟨Hd4, w4, k4, rfl⟩
  rw [← List.map_take, List.getElem?_map] at hx
  obtain ⟨xi, hxi, rfl⟩ := Option.map_eq_some_iff.mp hx
  obtain ⟨r, hr, hrec⟩ := (hall.take 3).getL hxi
  have hm : r ∈ wholesP rows ++ rows.take 3 := List.mem_append_right _ (List.mem_of_getElem? hr)
  repeat walk_at "f"
  refine TestsW.nil ?_
  first | with_reducible refine if_t rfl ?_ | with_reducible refine IfK.t rfl ?_ | with_reducible refine IteK.t rfl ?_ | rw [if_pos rfl]
  repeat walk_at "f"
  refine (CallW.own w4 (strRec (n := n) (xs := xs) (rows := rows) (row := r) (by first | exact room_le2 hroom hrm hrm2 tt | (replace hrm2 : d2.room = d.room := hrm2; show 4 * n + 1 ≤ d2.room; omega) | (show 4 * n + 1 ≤ d2.room; omega)) (hrec.mono (k2.trans k4)) (hall.mono fun _ _ => RecAt.mono (k2.trans k4)) (hfit _ hm))).mono fun v H5 h5 => ?_
  obtain ⟨Hd5, ⟨k5, rfl⟩, w5⟩ := h5
  repeat walk_at "f"
  refine ⟨Hd5, w5, k4.trans k5, ?_⟩
  have et : (rows.take 3).take (k + 1) = (rows.take 3).take k ++ [r] := by rw [List.take_add_one, hr]; rfl
  rw [et, List.map_append]; rfl
 rintro ys H4 _ ⟨Hd4, w4, k4, rfl⟩ D hD
 rw [List.length_take, List.length_map, hxl, List.take_of_length_le (l := rows.take 3) (by rw [List.length_take]; exact Nat.le_refl _)]
 have w5 := w4.alloc (o := .list ((rows.take 3).map fun w => AV.str (S (strOf n rows w)))) hD
 have hDd := w4.back hD
 refine OpW.addL (w5.get _ (.head _)) (hset_same _ _ _) (by rw [List.length_map, List.length_map, List.length_take]; omega) fun G hG => ?_
 have w6 := w5.alloc (o := .list (((wholesP rows).map fun w => AV.str (S (strOf n rows w))) ++ (rows.take 3).map fun w => AV.str (S (strOf n rows w)))) hG
 have hGd := w5.back hG
 repeat walk_at "f"
 rw [← hQ]
 refine ⟨(k2.trans (k4.trans (HLe.put hGd (HLe.new hDd)))).trans w6.le, G, rfl, ?_⟩
 rw [hset_same, List.map_append]
end
end
end
section
noncomputable section
section
variable {c : Cx} {L : AL} {H : AH} {R : List (Addr × Obj)} {s : Shared}
theorem CB.and {xs : List Expr} {pos : Pos} {Q : Bool → AH → Prop} (h : BW c (allTrue .And xs c.d.env) L H Q) : CB c (.BoolOp .And xs pos) L H Q := fun R s S => wpAny_isTrue_BoolOp (h R s S)
theorem CB.or {xs : List Expr} {pos : Pos} {Q : Bool → AH → Prop} (h : BW c (allTrue .Or xs c.d.env) L H Q) : CB c (.BoolOp .Or xs pos) L H Q := fun R s S => wpAny_isTrue_BoolOp (h R s S)
theorem AndW.nil {Q : Bool → AH → Prop} (h : Q true H) : BW c (allTrue .And [] c.d.env) L H Q := fun R s S => wpAny_allTrue_And_nil ⟨H, S, h⟩
theorem AndW.cons {x : Expr} {xs : List Expr} {Q : Bool → AH → Prop} (h : CB c x L H fun b H1 => if b = true then BW c (allTrue .And xs c.d.env) L H1 Q else Q false H1) : BW c (allTrue .And (x :: xs) c.d.env) L H Q := fun R s S =>
 wpAny_allTrue_And_cons (h.run S fun b H' s' S' q => by
  cases b with
  | false => rw [if_neg (by decide)] at q ⊢; exact ⟨H', S', q⟩
  | true => rw [if_pos rfl] at q ⊢; exact q R s' S')
theorem OrW.cons {x : Expr} {xs : List Expr} {Q : Bool → AH → Prop} (h : CB c x L H fun b H1 => if b = true then Q true H1 else BW c (allTrue .Or xs c.d.env) L H1 Q) : BW c (allTrue .Or (x :: xs) c.d.env) L H Q := fun R s S =>
 wpAny_allTrue_Or_cons (h.run S fun b H' s' S' q => by
  cases b with
  | true => rw [if_pos rfl] at q ⊢; exact ⟨H', S', q⟩
  | false => rw [if_neg (by decide)] at q ⊢; exact q R s' S')
variable {Q : AV → AH → Prop}
theorem CallW.typS {x : Str} (h : Q (.typ "str") H) : CallW c (.type "type") [.str x] L H Q := by
 rintro _ (_ | ⟨⟨t, rfl⟩, _ | _⟩) R s S
 exact call_type_of (Tx := "str") (typeIs_str _ _ _) (by decide +kernel) ⟨.typ "str", H, rfl, S, h⟩
theorem CallW.typI {x : Int} (h : Q (.typ "int") H) : CallW c (.type "type") [.int x] L H Q := by
 rintro _ (_ | ⟨⟨t, rfl⟩, _ | _⟩) R s S
 exact call_type_of (Tx := "int") rfl (by decide +kernel) ⟨.typ "int", H, rfl, S, h⟩
theorem CallW.intI {x : Int} (h : Q (.int x) H) : CallW c (.type "int") [.int x] L H Q := by
 rintro _ (_ | ⟨⟨t, rfl⟩, _ | _⟩) R s S
 exact call_int_int ⟨.int x, H, ⟨_, rfl⟩, S, h⟩
theorem CallW.isStr {x : Str} (h : Q (.bool true) H) : CallW c (.builtin "isinstance") [.str x, .typ "str"] L H Q := by
 rintro _ (_ | ⟨⟨t, rfl⟩, _ | ⟨rfl, _ | _⟩⟩) R s S
 exact call_isinstance (isinstance_true (Tx := "str") F.isi_meta_str F.sub_str_str) ⟨typeIs_str _ _ _, .bool true, H, rfl, S, h⟩
theorem IpW.addSS {a b : W} (hz : a.length + b.length ≤ 1000000) (h : Q (.str (S (a ++ b))) H) : IpW c .Add (.str (S a)) (.str (S b)) L H Q := by
 rintro _ _ ⟨t, rfl⟩ ⟨u, rfl⟩ R s S'
 exact iadd_str (fun t' tk => ⟨.str (S a ++ S b), H, ⟨_, rfl⟩, S'.toks, by rw [S_append]; exact h⟩) (by rw [S_length, S_length]; exact Nat.le_trans hz (by decide))
theorem gives_find4 (x y : Str) (i : Int) (t u v v' : Tok) : Gives (Builtin.«str.find» ⟨[.str x t, .str y u, .int i v, .int (x.length : Nat) v'], []⟩) (.int (Txt.find3 x y i)) := by
 have e : Gives (match Builtin.Str.occurrences x y (fromIndex x.length i) (min (fromIndex x.length (x.length : Nat)) x.length) 1 with | k :: _ => retInt k | [] => (do rule "str.find.not-found"; retInt (-1))) (.int (Txt.find3 x y i)) := by
  have e1 : min (fromIndex x.length (x.length : Nat)) x.length = x.length := by
   unfold fromIndex
   rw [if_neg (by omega)]; omega
  rw [e1]
  unfold Txt.find3
  cases Builtin.Str.occurrences x y (fromIndex x.length i) x.length 1 with
  | nil => exact .rule (.of_eq rfl)
  | cons k _ => exact .of_eq rfl
 exact e
theorem CallW.find4 {x y : W} {i : Int} (h : Q (.int (Txt.find3 (S x) (S y) i)) H) : CallW c (.builtin "str.find") [.str (S x), .str (S y), .int i, .int x.length] L H Q := by
 rintro _ (_ | ⟨⟨t, rfl⟩, _ | ⟨⟨u, rfl⟩, _ | ⟨⟨v, rfl⟩, _ | ⟨⟨v', rfl⟩, _ | _⟩⟩⟩⟩) R s S'
 have g := gives_find4 (S x) (S y) i t u v v'
 rw [S_length] at g
 exact call_gives F.slot_str_find (typeIs_str _ _ _) F.entry_str_find (F.args_str_find_4 _ _ _ _) g ⟨.int _, H, ⟨_, rfl⟩, S'.toks, h⟩
theorem slice_eq {x : W} {i j : Nat} (hij : i ≤ j) (hj : j ≤ x.length) : Txt.slice (S x) (some (i : Int)) (some (j : Int)) = S ((x.drop i).take (j - i)) := by
 have hL : (S x).length = x.length := S_length _
 have hj' : j ≤ (S x).length := by rw [hL]; exact hj
 unfold Txt.slice
 split
 ·rename_i hc
  rw [StrLaws.strSliceIndices_plain hij hj', List.length_map, List.length_range, hL] at hc
  have h2 : j - i = x.length := by simpa using hc
  have h3 : i = 0 ∧ j = x.length := by omega
  obtain ⟨rfl, rfl⟩ := h3
  rw [List.drop_zero, Nat.sub_zero, List.take_length]
 ·rw [StrLaws.sliced_plain (S x) hij hj']; rfl
theorem EW.subSS {e lo hi : Expr} {sp pos : Pos} (h : EW c e L H fun a H1 => ∃ x : W, a = .str (S x) ∧ x.length ≤ 1000000 ∧ EW c lo L H1 fun l H2 => ∃ i : Nat, l = .int i ∧ EW c hi L H2 fun u H3 => ∃ j : Nat, u = .int j ∧ i ≤ j ∧ j ≤ x.length ∧ Q (.str (S ((x.drop i).take (j - i)))) H3)
  (hs : ∀ o i, subscripted (.Slice (some lo) (some hi) none sp) false o i = operate [i, o] (getItem o i) := by intro _ _; with_unfolding_all rfl)
  (ht : ∀ x t r, letTemporaryGo e (.str x t) r = pure () := by intro _ _ _; with_unfolding_all rfl) : EW c (.Subscript e (.Slice (some lo) (some hi) none sp) pos) L H Q := fun R s S' =>
 Subscript_ (h.run S' fun v a H1 s1 hv S1 zz => by
  obtain ⟨x, ea, hx, q1⟩ := zz
  subst ea
  refine wpAny_Slice ?_
  rw [evalPart_some]
  refine q1.run S1 fun vl al H2 s2 hvl S2 hx0 => ?_
  obtain ⟨i, el, q2⟩ := hx0
  subst el
  rw [evalPart_some]
  refine q2.run S2 fun vu au H3 s3 hvu S3 hx0 => ?_
  obtain ⟨j, eu, hij, hj, q3⟩ := hx0
  subst eu
  obtain ⟨t, rfl⟩ := hv
  obtain ⟨tl, rfl⟩ := hvl
  obtain ⟨tu, rfl⟩ := hvu
  refine wpAny_pure (subscriptTail_ops (typeIs_str _ _ _) F.slot_str_getitem.lookup (wpAny_getItem_str_slice (l := some ((i : Nat), tl)) (u := some ((j : Nat), tu)) (st := none) ⟨_, Heap.get?_push_size _ rfl, rfl, rfl⟩ rfl (post_val_or_str ⟨Nat.le_trans (Txt.slice_le (S x) (some (i : Nat)) (some (j : Nat))) ?_, fun t' k => ?_⟩)) (hs _ _) (ht _ _))
  ·rw [S_length]; exact Nat.le_trans hx (by decide)
  ·obtain ⟨_, S4⟩ := S3.pushR (o := { cls := .type "slice", data := .fields #[.int (i : Nat) tl, .int (j : Nat) tu, .none] }) rfl
   have S5 := (S4.dropR (R' := R) fun p hp => .tail _ hp).toks (tk := k)
   exact ⟨.str _, H3, ⟨t', congrArg (fun z => Value.str z t') (slice_eq hij hj)⟩, S5, q3⟩)
end
end
end
section
set_option maxHeartbeats 4000000
noncomputable section
theorem f140 (P) : (Kf P).lookup 140 = some (fnO (topS 14) (o "_index") .none (.str (o "io") 483) (.ref 139)) := by rfl
theorem g140 (P) : codeIn (Kf P) (.ref 139) (o "_index") = true := rfl
theorem f458 (P) : (Kf P).lookup 458 = some (fnO (metS 20 3) (o "StringIO.__check") .none (.str (o "io") 483) (.ref 457)) := by rfl
theorem g458 (P) : codeIn (Kf P) (.ref 457) (o "StringIO.__check") = true := rfl
theorem f620 (P) : (Kf P).lookup 620 = some (fnO (metS 20 25) (o "StringIO.read") (.ref 613) (.str (o "io") 483) (.ref 619)) := by rfl
theorem g620 (P) : codeIn (Kf P) (.ref 619) (o "StringIO.read") = true := rfl
theorem f628 (P) : (Kf P).lookup 628 = some (fnO (metS 20 26) (o "StringIO.readline") (.ref 621) (.str (o "io") 483) (.ref 627)) := by rfl
theorem g628 (P) : codeIn (Kf P) (.ref 627) (o "StringIO.readline") = true := rfl
theorem f472 (P) : (Kf P).lookup 472 = some (fnO (metS 20 5) (o "StringIO.__line") .none (.str (o "io") 483) (.ref 471)) := by rfl
theorem g472 (P) : codeIn (Kf P) (.ref 471) (o "StringIO.__line") = true := rfl
theorem o674_n (P) : ownOk (Kf P) 674 (Str.ofString "_StringIO__newline") = true := by kernel_rfl
theorem o674_b (P) : ownOk (Kf P) 674 (Str.ofString "_StringIO__buf") = true := by kernel_rfl
theorem o674_p (P) : ownOk (Kf P) 674 (Str.ofString "_StringIO__pos") = true := by kernel_rfl
theorem s674_p (P) : setOk (Kf P) 674 (Str.ofString "_StringIO__pos") = true := by kernel_rfl
theorem p674_c (P) : plainGet (Kf P) 674 (Str.ofString "_StringIO__check") = true := by kernel_rfl
theorem p674_l (P) : plainGet (Kf P) 674 (Str.ofString "_StringIO__line") = true := by kernel_rfl
theorem i674_c (P) : findIn (Kf P) (.ref 674) (Str.ofString "_StringIO__check") = some (some (.ref 458)) := by kernel_rfl
theorem i674_l (P) : findIn (Kf P) (.ref 674) (Str.ofString "_StringIO__line") = some (some (.ref 472)) := by kernel_rfl
theorem n458 (P) : isFn (Kf P) (.ref 458) = true := by kernel_rfl
theorem n472 (P) : isFn (Kf P) (.ref 472) = true := by kernel_rfl
theorem k458 (P) : keepIn (Kf P) (.ref 458) = true := rfl
theorem k472 (P) : keepIn (Kf P) (.ref 472) = true := rfl
noncomputable def ioD (buf : W) (pos : Int) : List (Str × AV) := [(Str.ofString "_StringIO__newline", .str (S [10])), (Str.ofString "_StringIO__buf", .str (S buf)), (Str.ofString "_StringIO__pos", .int pos)]
structure IoAt (H : AH) (x dx : Addr) (buf : W) (pos : Int) : Prop where
 x : H x = some (.inst 674 dx)
 d : H dx = some (.dict (ioD buf pos))
theorem IoAt.ne {H : AH} {x dx : Addr} {buf : W} {pos : Int} (h : IoAt H x dx buf pos) : x ≠ dx := fun q => by have := h.x; rw [q, h.d] at this; cases this
theorem IoAt.put {H : AH} {x dx : Addr} {buf : W} {pos pos' : Int} (h : IoAt H x dx buf pos) : IoAt (hset H dx (.dict (ioD buf pos'))) x dx buf pos' := ⟨(hset_ne h.ne).trans h.x, hset_same _ _ _⟩
section
variable {c : Cx} {L : AL} {H : AH} {Q : AV → AH → Prop}
theorem GetW.ioB {x dx : Addr} {buf : W} {pos : Int} (h : IoAt H x dx buf pos) (q : Q (.str (S buf)) H) : GetW c (.ref x) (Str.ofString "_StringIO__buf") L H Q := GetW.own h.x h.d rfl (o674_b _) q
theorem GetW.ioP {x dx : Addr} {buf : W} {pos : Int} (h : IoAt H x dx buf pos) (q : Q (.int pos) H) : GetW c (.ref x) (Str.ofString "_StringIO__pos") L H Q := GetW.own h.x h.d rfl (o674_p _) q
theorem GetW.ioN {x dx : Addr} {buf : W} {pos : Int} (h : IoAt H x dx buf pos) (q : Q (.str (S [10])) H) : GetW c (.ref x) (Str.ofString "_StringIO__newline") L H Q := GetW.own h.x h.d rfl (o674_n _) q
theorem SetW.ioP {Q : AH → Prop} {x dx : Addr} {buf : W} {pos pos' : Int} (h : IoAt H x dx buf pos) (q : Q (hset H dx (.dict (ioD buf pos')))) : SetW c (.ref x) (Str.ofString "_StringIO__pos") (.int pos') L H Q := SetW.own h.x h.d (s674_p _) (by decide : 3 ≤ 900) q
theorem MethAt.ioC {x dx : Addr} {buf : W} {pos : Int} (h : IoAt H x dx buf pos) : MethAt c H (.ref x) (Str.ofString "_StringIO__check") x 458 := ⟨rfl, ⟨_, _, _, h.x, h.d, rfl, p674_c _, i674_c _⟩, n458 _, k458 _⟩
theorem MethAt.ioL {x dx : Addr} {buf : W} {pos : Int} (h : IoAt H x dx buf pos) : MethAt c H (.ref x) (Str.ofString "_StringIO__line") x 472 := ⟨rfl, ⟨_, _, _, h.x, h.d, rfl, p674_l _, i674_l _⟩, n472 _, k472 _⟩
structure S620 (x : Addr) (i j : Nat) (H0 : AH) (L1 : AL) (H1 : AH) : Prop where
 e : H1 = H0
 l1 : L1 (o "self") = some (.ref x)
 l2 : L1 (o "start") = some (.int i)
 l3 : L1 (o "stop") = some (.int (j : Nat))
structure S472 (x : Addr) (i j : Nat) (H0 : AH) (f : Int) (L1 : AL) (H1 : AH) : Prop where
 e : H1 = H0
 l1 : L1 (o "self") = some (.ref x)
 l2 : L1 (o "start") = some (.int i)
 l3 : L1 (o "stop") = some (.int (j : Nat))
 l4 : L1 (o "end") = some (.str (S [10]))
 l5 : L1 (o "i") = some (.int f)
theorem c140 {n : Int} {what : Str} (hroom : 1 ≤ c.d.room) (hn : -1 ≤ n) (hn2 : n ≤ 1) : CodeW c (.ref 140) [.int n, .str what] [] [] L H fun a H' => a = .int n ∧ H' = H := by
 refine CodeW.enterP (ns := [o "n", o "what"]) (bas := [.int n, .str what]) (f140 _) (g140 _) (by first | exact room_1 hroom tt | omega) (fun vs ws hv hw => ?_) (by rfl) (by rfl) (by rfl) (by rfl) (by rfl) fun d hrm _ Pf hPf => ?_
 ·exact bind2 hv fun _ _ _ _ => BindsTo.of_eq (by rfl)
 conv in fBody _ => whnf
 repeat walk_at "f"
 refine CallW.typI ?_
 repeat walk_at "f"
 refine CmpW.isNotT ?_
 first | with_reducible refine if_f (by decide) ?_ | with_reducible refine IfK.f (by decide) ?_ | with_reducible refine IteK.f (by decide) ?_ | rw [if_neg (by decide)]
 first | with_reducible refine if_f (by decide) ?_ | with_reducible refine IfK.f (by decide) ?_ | with_reducible refine IteK.f (by decide) ?_ | rw [if_neg (by decide)]
 repeat walk_at "f"
 refine CallW.intI ?_
 repeat walk_at "f"
 rw [if_neg (by simp; omega)]
 repeat walk_at "f"
 refine EW.usub ?_
 repeat walk_at "f"
 refine ⟨_, rfl, ?_⟩
 repeat walk_at "f"
 rw [if_neg (by simp; omega)]
 repeat walk_at "f"
 exact ⟨rfl, rfl⟩
theorem c458 {x dx : Addr} {buf : W} {pos : Int} (hroom : 1 ≤ c.d.room) (h : IoAt H x dx buf pos) : CodeW c (.ref 458) [.ref x] [] [] L H fun a H' => a = .none ∧ H' = H := by
 refine CodeW.enterP (ns := [o "self"]) (bas := [.ref x]) (f458 _) (g458 _) (by first | exact room_1 hroom tt | omega) (fun vs ws hv hw => ?_) (by rfl) (by rfl) (by rfl) (by rfl) (by rfl) fun d hrm _ Pf hPf => ?_
 ·exact bind1 hv fun _ _ _ => BindsTo.of_eq (by rfl)
 conv in fBody _ => whnf
 repeat walk_at "f"
 refine GetW.ioB h ?_
 repeat walk_at "f"
 refine CmpW.isN rfl ?_
 repeat walk_at "f"
 rw [if_neg (by intro q; cases q)]
 repeat walk_at "f"
 exact ⟨rfl, rfl⟩
noncomputable def nextC (buf : W) (pos : Nat) : W := (buf.drop pos).take 1
theorem c620 {x dx : Addr} {buf : W} {pos : Nat} (hroom : 2 ≤ c.d.room) (h : IoAt H x dx buf pos) (hb : buf.length ≤ 1000000) : CodeW c (.ref 620) [.ref x, .int 1] [] [] L H fun a H' => a = .str (S (nextC buf pos)) ∧ ((nextC buf pos = [] ∧ H' = H) ∨ (pos < buf.length ∧ H' = hset H dx (.dict (ioD buf (pos + 1 : Nat))))) := by
 generalize hQ : (fun (a : AV) (H' : AH) => a = .str (S (nextC buf pos)) ∧ ((nextC buf pos = [] ∧ H' = H) ∨ (pos < buf.length ∧ H' = hset H dx (.dict (ioD buf (pos + 1 : Nat)))))) = Q
 refine CodeW.enterP (ns := [o "self", o "size"]) (bas := [.ref x, .int 1]) (f620 _) (g620 _) (by first | exact room_1 hroom tt | omega) (fun vs ws hv hw => ?_) (by rfl) (by rfl) (by rfl) (by rfl) (by rfl) fun d hrm _ Pf hPf => ?_
 ·obtain ⟨_, _, rfl, h1, hv⟩ := hv.cons_inv
  obtain ⟨_, _, rfl, h2, hv⟩ := hv.cons_inv
  cases hv; cases hw
  exact ⟨[_, _], .cons h1 (.cons h2 .nil), fun s X => BindsTo.of_defaults (T := 613) (o := ⟨.type "tuple", none, .seq #[.int (-1) 1060] 0, #[]⟩) (items := #[.int (-1) 1060]) rfl (X _ _ rfl) rfl rfl rfl⟩
 conv in fBody _ => whnf
 repeat walk_at "f"
 refine CmpW.isN rfl ?_
 repeat walk_at "f"
 rw [if_neg (by intro q; cases q)]
 repeat walk_at "f"
 refine (CallKW.toCall (CodeW.toKW (c140 (by first | exact room_le hroom hrm tt | exact room_le hroom hr tt | (show 1 ≤ d.room; omega)) (by decide) (by decide)))).mono fun v H2 h2 => ?_
 obtain ⟨rfl, rfl⟩ := h2
 repeat walk_at "f"
 refine EW.meth0 ?_
 repeat walk_at "f"
 refine ⟨_, _, MethAt.ioC h, ?_⟩
 refine (CallKW.toCall (CodeW.toKW (c458 (by first | exact room_le hroom hrm tt | exact room_le hroom hr tt | (show 1 ≤ d.room; omega)) h))).mono fun v H2 h2 => ?_
 obtain ⟨rfl, rfl⟩ := h2
 repeat walk_at "f"
 refine GetW.ioP h ?_
 repeat walk_at "f"
 refine GetW.ioB h ?_
 repeat walk_at "f"
 refine CallW.lenS (by omega) ?_
 repeat walk_at "f"
 by_cases hp : buf.length ≤ pos
 ·rw [if_pos (by simp; omega)]
  repeat walk_at "f"
  rw [← hQ]
  have e : nextC buf pos = [] := by unfold nextC; rw [List.drop_eq_nil_of_le hp]; rfl
  refine ⟨by rw [e]; rfl, .inl ⟨e, rfl⟩⟩
 ·rw [if_neg (by simp; omega)]
  walk_at "f"
  with_reducible refine Then.next ?_
  with_reducible refine SS.seq (S620 x pos (pos + 1) H2) (fun _ hPs => ?_) ?_
  ·repeat walk_at "f"
   first | with_reducible refine if_t (by decide) ?_ | with_reducible refine IfK.t (by decide) ?_ | with_reducible refine IteK.t (by decide) ?_ | rw [if_pos (by decide)]
   repeat walk_at "f"
   by_cases hp2 : pos + 1 < buf.length
   ·rw [if_pos (by simp; omega)]
    repeat walk_at "f"
    exact ⟨rfl, rfl, by walk_at "lk", by walk_at "lk", (lset_same _ _ _).trans (congrArg (fun z => some (AV.int z)) (by omega))⟩
   ·rw [if_neg (by simp; omega)]
    repeat walk_at "f"
    exact ⟨rfl, rfl, by walk_at "lk", by walk_at "lk", (lset_same _ _ _).trans (congrArg (fun z => some (AV.int z)) (by omega))⟩
  rintro L1 _ ⟨rfl, l1, l2, l3⟩
  repeat walk_at "f"
  refine SetW.ioP h ?_
  have h2 := h.put (pos' := (pos + 1 : Nat))
  generalize hH : hset _ dx (.dict (ioD buf (pos + 1 : Nat))) = H3 at h2
  refine SS.one ?_
  refine ST.ret ?_
  refine EW.subSS ?_
  repeat walk_at "f"
  refine GetW.ioB h2 ?_
  refine ⟨buf, rfl, hb, ?_⟩
  repeat walk_at "f"
  refine ⟨pos, rfl, ?_⟩
  repeat walk_at "f"
  refine ⟨pos + 1, rfl, by omega, by omega, ?_⟩
  repeat walk_at "f"
  rw [← hQ]
  refine ⟨by unfold nextC; rw [Nat.add_sub_cancel_left] <;> rfl, .inr ⟨by omega, hH.symm⟩⟩
noncomputable def lineEnd (buf : W) (pos : Nat) : Nat := match (buf.drop pos).findIdx? (· == 10) with | some k => pos + k + 1 | none => buf.length
theorem getD_S {x : W} {k : Nat} : (S x).cps.getD k 0 = x.getD k 0 := by
 show x.toArray.getD k 0 = _
 rw [List.getD_eq_getElem?_getD, Array.getD_eq_getD_getElem?, List.getElem?_toArray]
theorem find_line {buf : W} {pos : Nat} (hp : pos < buf.length) : (Txt.find3 (S buf) (S [10]) pos = -1 ∧ lineEnd buf pos = buf.length) ∨ ∃ k : Nat, Txt.find3 (S buf) (S [10]) pos = k ∧ lineEnd buf pos = k + 1 ∧ k < buf.length ∧ pos ≤ k := by
 have hf : fromIndex (S buf).length pos = pos := by unfold fromIndex; rw [if_neg (by omega)]; omega
 have hL : (S buf).length = buf.length := S_length _
 have sp := StrLaws.find3_spec (S buf) 10 pos
 rw [hf, hL] at sp
 rcases sp with ⟨e, hn⟩ | ⟨k, e, h1, h2, h3, hn⟩
 ·refine .inl ⟨e, ?_⟩
  unfold lineEnd
  rw [List.findIdx?_eq_none_iff.mpr fun x hx => ?_]
  obtain ⟨i, hi, rfl⟩ := List.mem_iff_getElem.mp hx
  rw [List.length_drop] at hi
  have hlt : pos + i < buf.length := Nat.add_lt_of_lt_sub' hi
  have := hn (pos + i) (Nat.le_add_right ..) hlt
  rw [getD_S, List.getD_eq_getElem?_getD, List.getElem?_eq_getElem hlt] at this
  rw [List.getElem_drop]
  simpa using this
 ·refine .inr ⟨k, e, ?_, h2, h1⟩
  unfold lineEnd
  have : (buf.drop pos).findIdx? (· == 10) = some (k - pos) := by
   refine List.findIdx?_eq_some_iff_getElem.mpr ⟨by rw [List.length_drop]; exact Nat.sub_lt_sub_right h1 h2, ?_, fun j hj => ?_⟩
   ·rw [List.getElem_drop]
    rw [getD_S, List.getD_eq_getElem?_getD, List.getElem?_eq_getElem h2] at h3
    have e2 : pos + (k - pos) = k := Nat.add_sub_cancel' h1
    simp only [e2]
    simpa using h3
   ·rw [List.getElem_drop]
    have hlt := Nat.add_lt_of_lt_sub' hj
    have := hn (pos + j) (Nat.le_add_right ..) hlt
    rw [getD_S, List.getD_eq_getElem?_getD, List.getElem?_eq_getElem (Nat.lt_trans hlt h2)] at this
    simpa using this
  rw [this]
  exact congrArg Nat.succ (Nat.add_sub_cancel' h1)
theorem c472 {x dx : Addr} {buf : W} {pos : Nat} (hroom : 2 ≤ c.d.room) (h : IoAt H x dx buf pos) (hb : buf.length ≤ 1000000) : CodeW c (.ref 472) [.ref x, .int (-1)] [] [] L H fun _ H' => (buf.length ≤ pos ∧ H' = H) ∨ (pos < buf.length ∧ H' = hset H dx (.dict (ioD buf (lineEnd buf pos : Nat)))) := by
 generalize hQ : (fun (_ : AV) (H' : AH) => (buf.length ≤ pos ∧ H' = H) ∨ (pos < buf.length ∧ H' = hset H dx (.dict (ioD buf (lineEnd buf pos : Nat))))) = Q
 refine CodeW.enterP (ns := [o "self", o "limit"]) (bas := [.ref x, .int (-1)]) (f472 _) (g472 _) (by first | exact room_1 hroom tt | omega) (fun vs ws hv hw => ?_) (by rfl) (by rfl) (by rfl) (by rfl) (by rfl) fun d hrm _ Pf hPf => ?_
 ·exact bind2 hv fun _ _ _ _ => BindsTo.of_eq (by rfl)
 conv in fBody _ => whnf
 repeat walk_at "f"
 refine GetW.ioP h ?_
 repeat walk_at "f"
 refine GetW.ioB h ?_
 repeat walk_at "f"
 refine CallW.lenS (by omega) ?_
 repeat walk_at "f"
 by_cases hp : buf.length ≤ pos
 ·rw [if_pos (by simp; omega)]
  repeat walk_at "f"
  rw [← hQ]
  exact .inl ⟨hp, rfl⟩
 rw [if_neg (by simp; omega)]
 repeat walk_at "f"
 first | with_reducible refine if_f (by decide) ?_ | with_reducible refine IfK.f (by decide) ?_ | with_reducible refine IteK.f (by decide) ?_ | rw [if_neg (by decide)]
 first | with_reducible refine if_f (by decide) ?_ | with_reducible refine IfK.f (by decide) ?_ | with_reducible refine IteK.f (by decide) ?_ | rw [if_neg (by decide)]
 repeat walk_at "f"
 refine GetW.ioN h ?_
 iterate 2 walk_at "f"
 with_reducible refine SS.seq (S620 x pos (lineEnd buf pos) H) (fun _ hPs => ?_) ?_
 ·repeat walk_at "f"
  first | with_reducible refine if_f (by decide) ?_ | with_reducible refine IfK.f (by decide) ?_ | with_reducible refine IteK.f (by decide) ?_ | rw [if_neg (by decide)]
  repeat walk_at "f"
  refine CmpW.isN rfl ?_
  repeat walk_at "f"
  rw [if_neg (by intro q; cases q)]
  repeat walk_at "f"
  refine CB.and (AndW.cons (CB.val ?_))
  repeat walk_at "f"
  refine TrW.bool ?_
  first | with_reducible refine if_f (by decide) ?_ | with_reducible refine IfK.f (by decide) ?_ | with_reducible refine IteK.f (by decide) ?_ | rw [if_neg (by decide)]
  repeat walk_at "f"
  first | with_reducible refine if_f (by decide) ?_ | with_reducible refine IfK.f (by decide) ?_ | with_reducible refine IteK.f (by decide) ?_ | rw [if_neg (by decide)]
  walk_at "f"
  with_reducible refine Then.next ?_
  with_reducible refine SS.seq (S472 x pos buf.length H (Txt.find3 (S buf) (S [10]) pos)) (fun _ hPs => ?_) ?_
  ·walk_at "f"
   refine EW.methB F.plainAttrs_str F.slot_str_find F.type_str_find ?_
   repeat walk_at "f"
   refine GetW.ioB h ⟨rfl, ?_⟩
   repeat walk_at "f"
   refine CallW.find4 ?_
   repeat walk_at "f"
   exact ⟨rfl, rfl, by walk_at "lk", by walk_at "lk", by walk_at "lk", by walk_at "lk", by walk_at "lk"⟩
  rintro L1 _ ⟨rfl, l1, l2, l3, l4, l5⟩
  repeat walk_at "f"
  rcases find_line (buf := buf) (pos := pos) (by omega) with ⟨e1, e2⟩ | ⟨k, e1, e2, e3, e4⟩
  ·rw [e1] at l5 ⊢
   first | with_reducible refine if_f (by decide) ?_ | with_reducible refine IfK.f (by decide) ?_ | with_reducible refine IteK.f (by decide) ?_ | rw [if_neg (by decide)]
   repeat walk_at "f"
   rw [e2]
   exact ⟨rfl, rfl, by walk_at "lk", by walk_at "lk", by walk_at "lk"⟩
  ·rw [e1] at l5 ⊢
   rw [if_pos (by simp)]
   repeat walk_at "f"
   refine CallW.lenS (by decide) ?_
   repeat walk_at "f"
   rw [e2]
   exact ⟨rfl, rfl, by walk_at "lk", by walk_at "lk", by walk_at "lk"⟩
 rintro L2 _ ⟨rfl, m1, m2, m3⟩
 repeat walk_at "f"
 refine SetW.ioP h ?_
 have h2 := h.put (pos' := (lineEnd buf pos : Nat))
 generalize hH : hset _ dx (.dict (ioD buf (lineEnd buf pos : Nat))) = H3 at h2
 have le : pos ≤ lineEnd buf pos ∧ lineEnd buf pos ≤ buf.length := by
  rcases find_line (buf := buf) (pos := pos) (by omega) with ⟨e1, e2⟩ | ⟨k, e1, e2, e3, e4⟩ <;> omega
 refine SS.one ?_
 refine ST.ret ?_
 refine EW.subSS ?_
 repeat walk_at "f"
 refine GetW.ioB h2 ?_
 refine ⟨buf, rfl, hb, ?_⟩
 repeat walk_at "f"
 refine ⟨pos, rfl, ?_⟩
 repeat walk_at "f"
 refine ⟨lineEnd buf pos, rfl, le.1, le.2, ?_⟩
 repeat walk_at "f"
 rw [← hQ]
 exact .inr ⟨by omega, hH.symm⟩
theorem c628 {x dx : Addr} {buf : W} {pos : Nat} (hroom : 3 ≤ c.d.room) (h : IoAt H x dx buf pos) (hb : buf.length ≤ 1000000) : CodeW c (.ref 628) [.ref x] [] [] L H fun _ H' => (buf.length ≤ pos ∧ H' = H) ∨ (pos < buf.length ∧ H' = hset H dx (.dict (ioD buf (lineEnd buf pos : Nat)))) := by
 generalize hQ : (fun (_ : AV) (H' : AH) => (buf.length ≤ pos ∧ H' = H) ∨ (pos < buf.length ∧ H' = hset H dx (.dict (ioD buf (lineEnd buf pos : Nat))))) = Q
 refine CodeW.enterP (ns := [o "self", o "size"]) (bas := [.ref x, .int (-1)]) (f628 _) (g628 _) (by first | exact room_1 hroom tt | omega) (fun vs ws hv hw => ?_) (by rfl) (by rfl) (by rfl) (by rfl) (by rfl) fun d hrm _ Pf hPf => ?_
 ·obtain ⟨_, _, rfl, h1, hv⟩ := hv.cons_inv
  cases hv; cases hw
  exact ⟨[_, .int (-1) 1072], .cons h1 (.cons ⟨_, rfl⟩ .nil), fun s X => BindsTo.of_defaults (T := 621) (o := ⟨.type "tuple", none, .seq #[.int (-1) 1072] 0, #[]⟩) (items := #[.int (-1) 1072]) rfl (X _ _ rfl) rfl rfl rfl⟩
 conv in fBody _ => whnf
 repeat walk_at "f"
 refine CmpW.isN rfl ?_
 repeat walk_at "f"
 rw [if_neg (by intro q; cases q)]
 repeat walk_at "f"
 refine (CallKW.toCall (CodeW.toKW (c140 (by first | exact room_le hroom hrm tt | exact room_le hroom hr tt | (show 1 ≤ d.room; omega)) (by decide) (by decide)))).mono fun v H2 h2 => ?_
 obtain ⟨rfl, rfl⟩ := h2
 repeat walk_at "f"
 refine EW.meth0 ?_
 repeat walk_at "f"
 refine ⟨_, _, MethAt.ioC h, ?_⟩
 refine (CallKW.toCall (CodeW.toKW (c458 (by first | exact room_le hroom hrm tt | exact room_le hroom hr tt | (show 1 ≤ d.room; omega)) h))).mono fun v H2 h2 => ?_
 obtain ⟨rfl, rfl⟩ := h2
 repeat walk_at "f"
 refine EW.meth ?_
 repeat walk_at "f"
 refine ⟨_, _, MethAt.ioL h, ?_⟩
 repeat walk_at "f"
 refine (CallKW.toCall (CodeW.toKW (c472 (by first | exact room_le hroom hrm tt | exact room_le hroom hr tt | (show 2 ≤ d.room; omega)) h hb))).mono fun v H2 h2 => ?_
 repeat walk_at "f"
 rw [← hQ]
 exact h2
end
end
end
section
noncomputable section
section
variable {c : Cx} {L : AL} {H : AH} {R : List (Addr × Obj)} {s : Shared} {Q : AV → AH → Prop}
theorem GetW.prop {x dx C p fg : Addr} {es : List (Str × AV)} {name : Str} {rest : List Value} (hx : H x = some (.inst C dx)) (hd : H dx = some (.dict es)) (hg : plainGet (KP c) C name = true) (hh : hasDictIn (KP c) C = true)
  (ha : findIn (KP c) (.ref C) name = some (some (.ref p))) (hn : specialIn (KP c) (.ref p) "__get__" = some (some (.builtin "property.__get__"))) (ht : takesIn (KP c) (.ref p) = some true) (hp : recIn (KP c) p "property" = some (.ref fg :: rest)) (hroom : 1 ≤ c.d.room)
  (h : ∀ A, Near c.d.A A → CodeW (c.to A) (.ref fg) [.ref x] [] [] L H fun a H' => a.isBlt = false ∧ Q a H') : GetW c (.ref x) name L H Q := by
 rintro _ rfl R s S
 obtain ⟨ds, n, I, hr⟩ := S.inst hx hd
 obtain ⟨m, F, _⟩ := S.fr
 refine get_prop F S.ok.kin I hg hh ha hn ht hp ?_
 refine RetP.to (h _ (Near.in1 _) [.ref x] [] (.cons (a := .ref x) rfl .nil) .nil R _ ((S.toks (tk := s.toks + 1)).to (Near.in1 _) hroom)) fun v s' q => ?_
 obtain ⟨av, H', hv', S2, hb, q⟩ := q
 exact handed_on (handed_of hv' hb) ⟨av, H', hv', S.off S2, q⟩
theorem CmpW.inOne {n : Nat} {l : W} {P : Bool → AH → Prop} (h : P (decide (n ∈ l)) H) : CmpW c .In (.str (S [n])) (.str (S l)) L H P := by
 have e : (!(Builtin.Str.occurrences (S l) (S [n]) 0 (S l).length 1).isEmpty) = decide (n ∈ l) := StrLaws.found_one (S l) n
 exact CmpW.inS (by rw [e]; exact h)
theorem CmpW.notInNil {n : Nat} {P : Bool → AH → Prop} (h : P true H) : CmpW c .NotIn (.str (S [n])) (.str (S [])) L H P := by
 rintro _ _ ⟨t, rfl⟩ ⟨u, rfl⟩ R s S'
 have e : (!(Builtin.Str.occurrences (S []) (S [n]) 0 (S []).length 1).isEmpty) = decide (n ∈ ([] : W)) := StrLaws.found_one (S []) n
 exact notIn_str ⟨.bool _, H, rfl, S', _, rfl, by rw [e]; exact h⟩
end
end
end
section
set_option maxHeartbeats 4000000
noncomputable section
theorem o809_instream (P) : ownOk (Kf P) 809 (Str.ofString "instream") = true := by kernel_rfl
theorem o809_posix (P) : ownOk (Kf P) 809 (Str.ofString "posix") = true := by kernel_rfl
theorem o809_eof (P) : ownOk (Kf P) 809 (Str.ofString "eof") = true := by kernel_rfl
theorem o809_commenters (P) : ownOk (Kf P) 809 (Str.ofString "commenters") = true := by kernel_rfl
theorem o809_wordchars (P) : ownOk (Kf P) 809 (Str.ofString "wordchars") = true := by kernel_rfl
theorem o809_whitespace (P) : ownOk (Kf P) 809 (Str.ofString "whitespace") = true := by kernel_rfl
theorem o809_whitespace_split (P) : ownOk (Kf P) 809 (Str.ofString "whitespace_split") = true := by kernel_rfl
theorem o809_quotes (P) : ownOk (Kf P) 809 (Str.ofString "quotes") = true := by kernel_rfl
theorem o809_escape (P) : ownOk (Kf P) 809 (Str.ofString "escape") = true := by kernel_rfl
theorem o809_escapedquotes (P) : ownOk (Kf P) 809 (Str.ofString "escapedquotes") = true := by kernel_rfl
theorem o809_state (P) : ownOk (Kf P) 809 (Str.ofString "state") = true := by kernel_rfl
theorem o809_pushback (P) : ownOk (Kf P) 809 (Str.ofString "pushback") = true := by kernel_rfl
theorem o809_lineno (P) : ownOk (Kf P) 809 (Str.ofString "lineno") = true := by kernel_rfl
theorem o809_debug (P) : ownOk (Kf P) 809 (Str.ofString "debug") = true := by kernel_rfl
theorem o809_token (P) : ownOk (Kf P) 809 (Str.ofString "token") = true := by kernel_rfl
theorem o809_filestack (P) : ownOk (Kf P) 809 (Str.ofString "filestack") = true := by kernel_rfl
theorem o809_source (P) : ownOk (Kf P) 809 (Str.ofString "source") = true := by kernel_rfl
theorem o809__punctuation_chars (P) : ownOk (Kf P) 809 (Str.ofString "_punctuation_chars") = true := by kernel_rfl
theorem s809_state (P) : setOk (Kf P) 809 (Str.ofString "state") = true := by kernel_rfl
theorem s809_token (P) : setOk (Kf P) 809 (Str.ofString "token") = true := by kernel_rfl
theorem s809_lineno (P) : setOk (Kf P) 809 (Str.ofString "lineno") = true := by kernel_rfl
noncomputable def wcW : W := lit "abcdfeghijklmnopqrstuvwxyzABCDEFGHIJKLMNOPQRSTUVWXYZ0123456789_" ++ lit "ßàáâãäåæçèéêëìíîïðñòóôõöøùúûüýþÿÀÁÂÃÄÅÆÇÈÉÊËÌÍÎÏÐÑÒÓÔÕÖØÙÚÛÜÝÞ"
noncomputable def shD (io pb fs : Addr) (st : AV) (ln : Int) (tok : W) : List (Str × AV) := [(Str.ofString "instream", .ref io), (Str.ofString "infile", .none), (Str.ofString "posix", .bool true), (Str.ofString "eof", .none), (Str.ofString "commenters", .str (S [35])), (Str.ofString "wordchars", .str (S wcW)), (Str.ofString "whitespace", .str (S [32, 9, 13, 10])), (Str.ofString "whitespace_split", .bool true), (Str.ofString "quotes", .str (S [39, 34])), (Str.ofString "escape", .str (S [92])), (Str.ofString "escapedquotes", .str (S [34])), (Str.ofString "state", st), (Str.ofString "pushback", .ref pb), (Str.ofString "lineno", .int ln), (Str.ofString "debug", .int 0), (Str.ofString "token", .str (S tok)), (Str.ofString "filestack", .ref fs), (Str.ofString "source", .none), (Str.ofString "_punctuation_chars", .str (S []))]
structure LexA where
 (y dy io dio pb fs : Addr)
 buf : W
structure Lex (a : LexA) (Hd H : AH) (pos : Nat) (st : AV) (ln : Int) (tok : W) : Prop where
 own : Own Hd [(a.dy, .dict (shD a.io a.pb a.fs st ln tok)), (a.dio, .dict (ioD a.buf pos))] H
 y : Hd a.y = some (.inst 809 a.dy)
 io : Hd a.io = some (.inst 674 a.dio)
section
variable {c : Cx} {L : AL} {a : LexA} {Hd H : AH} {pos : Nat} {st : AV} {ln : Int} {tok : W}
theorem Lex.dy (h : Lex a Hd H pos st ln tok) : H a.dy = some (.dict (shD a.io a.pb a.fs st ln tok)) := h.own.get _ (.head _)
theorem Lex.ioAt (h : Lex a Hd H pos st ln tok) : IoAt H a.io a.dio a.buf pos := ⟨h.own.le _ _ h.io, h.own.get _ (.tail _ (.head _))⟩
theorem Lex.put (h : Lex a Hd H pos st ln tok) {st' : AV} {ln' : Int} {tok' : W} : Lex a Hd (hset H a.dy (.dict (shD a.io a.pb a.fs st' ln' tok'))) pos st' ln' tok' := ⟨h.own.put0, h.y, h.io⟩
theorem Lex.move (h : Lex a Hd H pos st ln tok) {pos' : Nat} : Lex a Hd (hset H a.dio (.dict (ioD a.buf pos'))) pos' st ln tok := ⟨h.own.put1, h.y, h.io⟩
theorem GetW.sh {Q : AV → AH → Prop} {name : Str} {v : AV} (h : Lex a Hd H pos st ln tok) (hok : ownOk (KP c) 809 name = true) (hl : getA name (shD a.io a.pb a.fs st ln tok) = some v) (hb : v.isBlt = false) (q : Q v H) : GetW c (.ref a.y) name L H Q := GetW.own (h.own.le _ _ h.y) h.dy hl hok q hb
theorem GetW.sh_instream {Q : AV → AH → Prop} (h : Lex a Hd H pos st ln tok) (q : Q (.ref a.io) H) : GetW c (.ref a.y) (Str.ofString "instream") L H Q := GetW.sh h (o809_instream _) rfl rfl q
theorem GetW.sh_posix {Q : AV → AH → Prop} (h : Lex a Hd H pos st ln tok) (q : Q (.bool true) H) : GetW c (.ref a.y) (Str.ofString "posix") L H Q := GetW.sh h (o809_posix _) rfl rfl q
theorem GetW.sh_eof {Q : AV → AH → Prop} (h : Lex a Hd H pos st ln tok) (q : Q (.none) H) : GetW c (.ref a.y) (Str.ofString "eof") L H Q := GetW.sh h (o809_eof _) rfl rfl q
theorem GetW.sh_commenters {Q : AV → AH → Prop} (h : Lex a Hd H pos st ln tok) (q : Q (.str (S [35])) H) : GetW c (.ref a.y) (Str.ofString "commenters") L H Q := GetW.sh h (o809_commenters _) rfl rfl q
theorem GetW.sh_wordchars {Q : AV → AH → Prop} (h : Lex a Hd H pos st ln tok) (q : Q (.str (S wcW)) H) : GetW c (.ref a.y) (Str.ofString "wordchars") L H Q := GetW.sh h (o809_wordchars _) rfl rfl q
theorem GetW.sh_whitespace {Q : AV → AH → Prop} (h : Lex a Hd H pos st ln tok) (q : Q (.str (S [32, 9, 13, 10])) H) : GetW c (.ref a.y) (Str.ofString "whitespace") L H Q := GetW.sh h (o809_whitespace _) rfl rfl q
theorem GetW.sh_whitespace_split {Q : AV → AH → Prop} (h : Lex a Hd H pos st ln tok) (q : Q (.bool true) H) : GetW c (.ref a.y) (Str.ofString "whitespace_split") L H Q := GetW.sh h (o809_whitespace_split _) rfl rfl q
theorem GetW.sh_quotes {Q : AV → AH → Prop} (h : Lex a Hd H pos st ln tok) (q : Q (.str (S [39, 34])) H) : GetW c (.ref a.y) (Str.ofString "quotes") L H Q := GetW.sh h (o809_quotes _) rfl rfl q
theorem GetW.sh_escape {Q : AV → AH → Prop} (h : Lex a Hd H pos st ln tok) (q : Q (.str (S [92])) H) : GetW c (.ref a.y) (Str.ofString "escape") L H Q := GetW.sh h (o809_escape _) rfl rfl q
theorem GetW.sh_escapedquotes {Q : AV → AH → Prop} (h : Lex a Hd H pos st ln tok) (q : Q (.str (S [34])) H) : GetW c (.ref a.y) (Str.ofString "escapedquotes") L H Q := GetW.sh h (o809_escapedquotes _) rfl rfl q
theorem GetW.sh_state {Q : AV → AH → Prop} (h : Lex a Hd H pos st ln tok) (q : Q (st) H) (hb : st.isBlt = false := by rfl) : GetW c (.ref a.y) (Str.ofString "state") L H Q := GetW.sh h (o809_state _) rfl hb q
theorem GetW.sh_pushback {Q : AV → AH → Prop} (h : Lex a Hd H pos st ln tok) (q : Q (.ref a.pb) H) : GetW c (.ref a.y) (Str.ofString "pushback") L H Q := GetW.sh h (o809_pushback _) rfl rfl q
theorem GetW.sh_lineno {Q : AV → AH → Prop} (h : Lex a Hd H pos st ln tok) (q : Q (.int ln) H) : GetW c (.ref a.y) (Str.ofString "lineno") L H Q := GetW.sh h (o809_lineno _) rfl rfl q
theorem GetW.sh_debug {Q : AV → AH → Prop} (h : Lex a Hd H pos st ln tok) (q : Q (.int 0) H) : GetW c (.ref a.y) (Str.ofString "debug") L H Q := GetW.sh h (o809_debug _) rfl rfl q
theorem GetW.sh_token {Q : AV → AH → Prop} (h : Lex a Hd H pos st ln tok) (q : Q (.str (S tok)) H) : GetW c (.ref a.y) (Str.ofString "token") L H Q := GetW.sh h (o809_token _) rfl rfl q
theorem GetW.sh_filestack {Q : AV → AH → Prop} (h : Lex a Hd H pos st ln tok) (q : Q (.ref a.fs) H) : GetW c (.ref a.y) (Str.ofString "filestack") L H Q := GetW.sh h (o809_filestack _) rfl rfl q
theorem GetW.sh_source {Q : AV → AH → Prop} (h : Lex a Hd H pos st ln tok) (q : Q (.none) H) : GetW c (.ref a.y) (Str.ofString "source") L H Q := GetW.sh h (o809_source _) rfl rfl q
theorem SetW.shS {Q : AH → Prop} {st' : AV} (h : Lex a Hd H pos st ln tok) (q : ∀ H', Lex a Hd H' pos st' ln tok → Q H') : SetW c (.ref a.y) (Str.ofString "state") st' L H Q := SetW.own (h.own.le _ _ h.y) h.dy (s809_state _) (by decide : 19 ≤ 900) (q _ h.put)
theorem SetW.shT {Q : AH → Prop} {tok' : W} (h : Lex a Hd H pos st ln tok) (q : ∀ H', Lex a Hd H' pos st ln tok' → Q H') : SetW c (.ref a.y) (Str.ofString "token") (.str (S tok')) L H Q := SetW.own (h.own.le _ _ h.y) h.dy (s809_token _) (by decide : 19 ≤ 900) (q _ h.put)
theorem SetW.shL {Q : AH → Prop} {ln' : Int} (h : Lex a Hd H pos st ln tok) (q : ∀ H', Lex a Hd H' pos st ln' tok → Q H') : SetW c (.ref a.y) (Str.ofString "lineno") (.int ln') L H Q := SetW.own (h.own.le _ _ h.y) h.dy (s809_lineno _) (by decide : 19 ≤ 900) (q _ h.put)
theorem f740 (P) : (Kf P).lookup 740 = some (fnO (metS 29 1) (o "shlex.punctuation_chars") .none (.str (o "cpy313.shlex") 1198) (.ref 739)) := by rfl
theorem g740 (P) : codeIn (Kf P) (.ref 739) (o "shlex.punctuation_chars") = true := rfl
theorem c740 (hroom : 1 ≤ c.d.room) (h : Lex a Hd H pos st ln tok) : CodeW c (.ref 740) [.ref a.y] [] [] L H fun v H' => v = .str (S []) ∧ H' = H := by
 refine CodeW.enterP (ns := [o "self"]) (bas := [.ref a.y]) (f740 _) (g740 _) (by first | exact room_1 hroom tt | omega) (fun vs ws hv hw => ?_) (by rfl) (by rfl) (by rfl) (by rfl) (by rfl) fun d hrm _ Pf hPf => ?_
 ·exact bind1 hv fun _ _ _ => BindsTo.of_eq (by rfl)
 conv in fBody _ => whnf
 repeat walk_at "f"
 refine GetW.sh h (o809__punctuation_chars _) rfl rfl ?_
 repeat walk_at "f"
 exact ⟨rfl, rfl⟩
theorem GetW.pc {Q : AV → AH → Prop} (h : Lex a Hd H pos st ln tok) (hroom : 2 ≤ c.d.room) (q : Q (.str (S [])) H) : GetW c (.ref a.y) (Str.ofString "punctuation_chars") L H Q :=
 GetW.prop (C := 809) (p := 741) (fg := 740) (rest := [.none, .none, .none, .str (o "punctuation_chars") 1231, .bool false]) (h.own.le _ _ h.y) h.dy (by kernel_rfl) (by kernel_rfl) (by kernel_rfl) (by kernel_rfl) (by kernel_rfl) (by kernel_rfl) (by omega) fun A _ => (c740 (c := c.to A) (by show 1 ≤ c.d.room - 1; omega) h).mono fun v H' hv => by obtain ⟨rfl, rfl⟩ := hv; exact ⟨rfl, q⟩
end
-- the lexer, as it steps
inductive LS where
 | non | sp | a
 | q (n : Nat)
noncomputable def avS : LS → AV
 | .non => .none
 | .sp => .str (S [32])
 | .a => .str (S [97])
 | .q n => .str (S [n])
noncomputable def dropLine (r : W) : W := match r.findIdx? (· == 10) with | some k => r.drop (k + 1) | none => []
noncomputable def spW : W := [32, 9, 13, 10, 35, 92, 39, 34]
inductive Lx : LS → W → Bool → W → W × Bool × LS × W → Prop
 | non : Lx .non [] false [] ([], false, .non, [])
 | spEnd : Lx .sp [] false [] ([], false, .non, [])
 | spWs {n : Nat} {r : W} {res} (h : n ∈ [32, 9, 13, 10]) (k : Lx .sp [] false r res) : Lx .sp [] false (n :: r) res
 | spCom {r : W} {res} (k : Lx .sp [] false (dropLine r) res) : Lx .sp [] false (35 :: r) res
 | spQ {n : Nat} {r : W} {res} (h : n ∈ [39, 34]) (k : Lx (.q n) [] false r res) : Lx .sp [] false (n :: r) res
 | spW {n : Nat} {r : W} {res} (h : n ∉ spW) (k : Lx .a [n] false r res) : Lx .sp [] false (n :: r) res
 | qEnd {n : Nat} {tok : W} {q : Bool} {r : W} {res} (k : Lx .a tok true r res) : Lx (.q n) tok q (n :: r) res
 | qIn {n m : Nat} {tok : W} {q : Bool} {r : W} {res} (h : m ≠ n) (h2 : m = 92 → n = 39) (k : Lx (.q n) (tok ++ [m]) true r res) : Lx (.q n) tok q (m :: r) res
 | aEnd {tok : W} {q : Bool} : Lx .a tok q [] (tok, q, .non, [])
 | aWs {n : Nat} {tok : W} {q : Bool} {r : W} (h : n ∈ [32, 9, 13, 10]) (h2 : tok ≠ [] ∨ q = true) : Lx .a tok q (n :: r) (tok, q, .sp, r)
 | aQ {n : Nat} {tok : W} {q : Bool} {r : W} {res} (h : n ∈ [39, 34]) (k : Lx (.q n) tok q r res) : Lx .a tok q (n :: r) res
 | aW {n : Nat} {tok : W} {q : Bool} {r : W} {res} (h : n ∉ spW) (k : Lx .a (tok ++ [n]) q r res) : Lx .a tok q (n :: r) res
theorem drop_line {buf : W} {p : Nat} (hp : p < buf.length) : buf.drop (lineEnd buf p) = dropLine (buf.drop p) := by
 unfold lineEnd dropLine
 cases (buf.drop p).findIdx? (· == 10) with
 | none => exact List.drop_length
 | some k => show buf.drop (p + k + 1) = (buf.drop p).drop (k + 1); rw [List.drop_drop]; rfl
inductive NxC (buf : W) (pos n : Nat) (r : W) : Prop
 | mk' (en : nextC buf pos = [n]) (hlt : pos < buf.length) (hd : buf.drop (pos + 1) = r)
theorem nextC_len {buf : W} {pos : Nat} (h : pos < buf.length) : (nextC buf pos).length = 1 := by
 unfold nextC; rw [List.length_take, List.length_drop]; omega
theorem nextC_cons {buf : W} {pos n : Nat} {r : W} (h : buf.drop pos = n :: r) : NxC buf pos n r := by
 refine ⟨by unfold nextC; rw [h]; rfl, ?_, ?_⟩
 ·apply Nat.lt_of_not_le; intro q; rw [List.drop_eq_nil_of_le q] at h; cases h
 ·rw [← List.drop_drop, h]; rfl
theorem nextC_nil {buf : W} {pos : Nat} (h : buf.drop pos = []) : nextC buf pos = [] := by unfold nextC; rw [h]; rfl
end
end
section
set_option maxHeartbeats 4000000
local macro_rules | `(tactic| walk_at "sh") => `(tactic| first | with_reducible refine GetW.sh_instream (by assumption) ?_ | with_reducible refine GetW.sh_posix (by assumption) ?_ | with_reducible refine GetW.sh_eof (by assumption) ?_ | with_reducible refine GetW.sh_commenters (by assumption) ?_ | with_reducible refine GetW.sh_wordchars (by assumption) ?_ | with_reducible refine GetW.sh_whitespace (by assumption) ?_ | with_reducible refine GetW.sh_whitespace_split (by assumption) ?_ | with_reducible refine GetW.sh_quotes (by assumption) ?_ | with_reducible refine GetW.sh_escape (by assumption) ?_ | with_reducible refine GetW.sh_escapedquotes (by assumption) ?_ | with_reducible refine GetW.sh_state (by assumption) ?_ (by with_unfolding_all rfl) | with_reducible refine GetW.sh_pushback (by assumption) ?_ | with_reducible refine GetW.sh_lineno (by assumption) ?_ | with_reducible refine GetW.sh_debug (by assumption) ?_ | with_reducible refine GetW.sh_token (by assumption) ?_ | with_reducible refine GetW.sh_filestack (by assumption) ?_ | with_reducible refine GetW.sh_source (by assumption) ?_)
noncomputable section
theorem iteT {b : Bool} {X Y : Prop} (h : b = true) (x : X) : if b = true then X else Y := by rw [if_pos h]; exact x
theorem iteF {b : Bool} {X Y : Prop} (h : b = false) (y : Y) : if b = true then X else Y := by rw [h]; exact y
theorem f777 (P) : (Kf P).lookup 777 = some (fnO (metS 29 6) (o "shlex.read_token") .none (.str (o "cpy313.shlex") 1198) (.ref 776)) := by rfl
theorem g777 (P) : codeIn (Kf P) (.ref 776) (o "shlex.read_token") = true := rfl
theorem p674_read (P) : plainGet (Kf P) 674 (Str.ofString "read") = true := by kernel_rfl
theorem i674_read (P) : findIn (Kf P) (.ref 674) (Str.ofString "read") = some (some (.ref 620)) := by kernel_rfl
theorem n620 (P) : isFn (Kf P) (.ref 620) = true := by kernel_rfl
theorem k620 (P) : keepIn (Kf P) (.ref 620) = true := rfl
theorem p674_rl (P) : plainGet (Kf P) 674 (Str.ofString "readline") = true := by kernel_rfl
theorem i674_rl (P) : findIn (Kf P) (.ref 674) (Str.ofString "readline") = some (some (.ref 628)) := by kernel_rfl
theorem n628 (P) : isFn (Kf P) (.ref 628) = true := by kernel_rfl
theorem k628 (P) : keepIn (Kf P) (.ref 628) = true := rfl
section
variable {c : Cx} {L : AL} {a : LexA} {Hd H : AH} {pos : Nat} {st : AV} {ln : Int} {tok : W}
theorem MethAt.read {x dx : Addr} {buf : W} {pos : Int} (h : IoAt H x dx buf pos) : MethAt c H (.ref x) (Str.ofString "read") x 620 := ⟨rfl, ⟨_, _, _, h.x, h.d, rfl, p674_read _, i674_read _⟩, n620 _, k620 _⟩
theorem MethAt.readline {x dx : Addr} {buf : W} {pos : Int} (h : IoAt H x dx buf pos) : MethAt c H (.ref x) (Str.ofString "readline") x 628 := ⟨rfl, ⟨_, _, _, h.x, h.d, rfl, p674_rl _, i674_rl _⟩, n628 _, k628 _⟩
inductive LexI (a : LexA) (Hd : AH) (res : W × Bool × LS × W) (n : Nat) (L1 : AL) (H1 : AH) : Prop
 | mk' (pos : Nat) (st : LS) (ln : Int) (tok : W) (q : Bool) (Hd1 : AH) (en : n = a.buf.length - pos) (l1 : L1 (o "self") = some (.ref a.y)) (l2 : L1 (o "quoted") = some (.bool q)) (kH : HLe Hd Hd1) (h : Lex a Hd1 H1 pos (avS st) ln tok)
  (hq : ∀ n, st = .q n → n ∈ [39, 34]) (ht : tok.length ≤ pos) (hx : Lx st tok q (a.buf.drop pos) res)
inductive LexO (a : LexA) (Hd : AH) (res : W × Bool × LS × W) (L1 : AL) (H1 : AH) : Prop
 | mk' (pos : Nat) (ln : Int) (Hd1 : AH) (l1 : L1 (o "self") = some (.ref a.y)) (l2 : L1 (o "quoted") = some (.bool res.2.1)) (kH : HLe Hd Hd1) (h : Lex a Hd1 H1 pos (avS res.2.2.1) ln res.1) (hd : a.buf.drop pos = res.2.2.2)
inductive LexR (a : LexA) (Hd1 : AH) (q : Bool) (pos : Nat) (st : LS) (tok : W) (L2 : AL) (H2 : AH) : Prop
 | mk' (l1 : L2 (o "self") = some (.ref a.y)) (l2 : L2 (o "quoted") = some (.bool q)) (l3 : L2 (o "nextchar") = some (.str (S (nextC a.buf pos)))) (ln' : Int) (h : Lex a Hd1 H2 (pos + (nextC a.buf pos).length) (avS st) ln' tok)
theorem LexI.go {res : W × Bool × LS × W} {pos' : Nat} {st' : LS} {q : Bool} (hlt : pos < a.buf.length) (hp : pos < pos') (l1 : L (o "self") = some (.ref a.y)) (l2 : L (o "quoted") = some (.bool q)) {Hd1 : AH} (kH : HLe Hd Hd1) (h : Lex a Hd1 H pos' (avS st') ln tok) (hq : ∀ n, st' = .q n → n ∈ [39, 34]) (ht : tok.length ≤ pos') {r : W} (hd : a.buf.drop pos' = r) (hx : Lx st' tok q r res) : ∃ m, m < a.buf.length - pos ∧ LexI a Hd res m L H :=
 ⟨a.buf.length - pos', by omega, pos', st', ln, tok, q, Hd1, rfl, l1, l2, kH, h, hq, ht, by rw [hd]; exact hx⟩
theorem lenS {m p : Nat} (h : tok.length ≤ p) : (tok ++ [m]).length ≤ p + 1 := by rw [List.length_append]; exact Nat.succ_le_succ h
theorem qN {n : Nat} (h : n ∈ [39, 34]) : n ∉ [32, 9, 13, 10] ∧ n ∉ [35] ∧ n ∉ [92] ∧ n ∉ wcW := by
 have e : n = 39 ∨ n = 34 := by simpa using h
 rcases e with rfl | rfl <;> decide +kernel
theorem sN {n : Nat} (h : n ∉ spW) : n ∉ [32, 9, 13, 10] ∧ n ∉ [35] ∧ n ∉ [92] ∧ n ∉ [39, 34] := by
 have e : spW = [32, 9, 13, 10] ++ ([35] ++ ([92] ++ [39, 34])) := rfl
 rw [e] at h
 exact ⟨fun q => h (List.mem_append_left _ q), fun q => h (List.mem_append_right _ (List.mem_append_left _ q)), fun q => h (List.mem_append_right _ (List.mem_append_right _ (List.mem_append_left _ q))), fun q => h (List.mem_append_right _ (List.mem_append_right _ (List.mem_append_right _ q)))⟩
theorem neSp {n : Nat} (h : n ∈ [39, 34]) : ([n] == lit " ") = false := by
 have e : n = 39 ∨ n = 34 := by simpa using h
 rcases e with rfl | rfl <;> decide +kernel
theorem litA : lit "a" = [97] := by decide +kernel
theorem Lex.stA (h : Lex a Hd H pos (.str (S (lit "a"))) ln tok) : Lex a Hd H pos (avS .a) ln tok := by rw [litA] at h; exact h
theorem Lex.stSp (h : Lex a Hd H pos (.str (S (lit " "))) ln tok) : Lex a Hd H pos (avS .sp) ln tok := by rw [show lit " " = [32] from by decide +kernel] at h; exact h
noncomputable def isW (w : W) (y : AV) : Bool := match y with | .str x => x == S w | _ => false
theorem CmpW.inAC {D : Addr} {P : Bool → AH → Prop} (hD : H D = some (.tup [.str (S (lit "a")), .str (S (lit "c"))])) (h : P true H) : CmpW c .In (.str (S [97])) (.ref D) L H P := by
 refine CmpW.inTup (n := 0) (by decide) (isW [97]) hD (fun y hy => ?_) ?_
 ·simp only [List.mem_cons, List.not_mem_nil, or_false] at hy
  rcases hy with rfl | rfl <;> (show EqW 0 _ _ _ (S _ == S [97]); rw [S_beq]; exact EqW.str _ _)
 ·have e : ([AV.str (S (lit "a")), .str (S (lit "c"))].any (isW [97])) = true := by decide +kernel
  rw [e]; exact h
theorem Lex.alloc (h : Lex a Hd H pos st ln tok) {D : Addr} {x : AObj} (hD : H D = none) : HLe Hd (hset Hd D x) ∧ Lex a (hset Hd D x) (hset H D x) pos st ln tok :=
 have hb := h.own.back hD
 ⟨HLe.new hb, h.own.alloc hD, hset_old hb h.y, hset_old hb h.io⟩
inductive LexP (a : LexA) (Hd : AH) (r : AV) (st : LS) (rest : W) (v : AV) (H' : AH) : Prop
 | mk' (e : v = r) (pos : Nat) (ln : Int) (Hd1 : AH) (le : HLe Hd Hd1) (h : Lex a Hd1 H' pos (avS st) ln []) (hd : a.buf.drop pos = rest)
theorem c777 {res : W × Bool × LS × W} {s0 : LS} (hroom : 4 ≤ c.d.room) (hb : a.buf.length ≤ 1000000) (h : Lex a Hd H pos (avS s0) ln []) (hs : ∀ n, s0 ≠ .q n) (hx : Lx s0 [] false (a.buf.drop pos) res) :
  CodeW c (.ref 777) [.ref a.y] [] [] L H (LexP a Hd (if res.2.1 = false ∧ res.1 = [] then .none else .str (S res.1)) res.2.2.1 res.2.2.2) := by
 generalize hQ : (LexP a Hd (if res.2.1 = false ∧ res.1 = [] then .none else .str (S res.1)) res.2.2.1 res.2.2.2) = Q
 refine CodeW.enterP (ns := [o "self"]) (bas := [.ref a.y]) (f777 _) (g777 _) (by first | exact room_1 hroom tt | omega) (fun vs ws hv hw => ?_) (by rfl) (by rfl) (by rfl) (by rfl) (by rfl) fun d hrm _ Pf hPf => ?_
 ·exact bind1 hv fun _ _ _ => BindsTo.of_eq (by rfl)
 conv in fBody _ => whnf
 repeat walk_at "f"
 first | with_reducible refine d_mid (LexO a Hd res) (fun _ hPs => ?_) ?_ | with_reducible refine SS.seq (LexO a Hd res) (fun _ hPs => ?_) ?_
 ·refine ST.whileIn (LexI a Hd res) (a.buf.length - pos) ⟨pos, s0, ln, [], false, Hd, rfl, by walk_at "lk", by walk_at "lk", HLe.rfl, h, fun n q => absurd q (hs n), Nat.zero_le _, hx⟩ ?_
  clear h hs hx
  rintro m L1 H1 Pk hPk ⟨pos, st, ln, tok, q, Hd1, rfl, l1, l2, kH, h, hq, ht, hx⟩
  refine CB.val ?_
  walk_at "f"
  refine TrW.bool ?_
  refine iteT rfl ?_
  first | with_reducible refine d_mid (LexR a Hd1 q pos st tok) (fun _ hPs => ?_) ?_ | with_reducible refine SS.seq (LexR a Hd1 q pos st tok) (fun _ hPs => ?_) ?_
  ·walk_at "f"
   walk_at "f"
   refine CB.val ?_
   repeat walk_at "f"
   refine GetW.pc h (by first | exact room_le hroom hrm tt | exact room_le hroom hr tt | (show 2 ≤ d.room; omega)) ?_
   refine TrW.strW (by decide) ?_
   refine iteF rfl (iteF rfl ?_)
   walk_at "f"
   walk_at "f"
   refine EW.meth ?_
   repeat walk_at "f"
   walk_at "sh"
   refine ⟨_, _, MethAt.read h.ioAt, ?_⟩
   repeat walk_at "f"
   refine (CallKW.toCall (CodeW.toKW (c620 (by first | exact room_le hroom hrm tt | exact room_le hroom hr tt | (show 2 ≤ d.room; omega)) h.ioAt hb))).mono fun v H2 h2 => ?_
   obtain ⟨rfl, h2⟩ := h2
   repeat walk_at "f"
   rcases h2 with ⟨e, rfl⟩ | ⟨e, rfl⟩
   ·exact ⟨rfl, by walk_at "lk", by walk_at "lk", by walk_at "lk", ln, by rw [e]; exact h⟩
   ·exact ⟨rfl, by walk_at "lk", by walk_at "lk", by walk_at "lk", ln, by rw [nextC_len e]; exact h.move⟩
  clear l1 l2 h ln H1
  rintro L2 H2 ⟨l1, l2, l3, ln, h⟩
  with_reducible refine SS.seq (fun L3 H3 => L3 = L2 ∧ ∃ ln', Lex a Hd1 H3 (pos + (nextC a.buf pos).length) (avS st) ln' tok) (fun _ hPs => ?_) ?_
  ·repeat walk_at "f"
   split
   ·refine SS.one ?_
    refine ST.augA ?_
    repeat walk_at "f"
    walk_at "sh"
    repeat walk_at "f"
    refine IpW.addI ?_
    refine SetW.shL h fun H3 h3 => ?_
    repeat walk_at "f"
    exact ⟨rfl, rfl, _, h3⟩
   ·repeat walk_at "f"
    exact ⟨rfl, rfl, _, h⟩
  clear h ln
  rintro _ H3 ⟨rfl, ln, h⟩
  repeat walk_at "f"
  walk_at "sh"
  repeat walk_at "f"
  refine iteF rfl ?_
  repeat walk_at "f"
  generalize hd : a.buf.drop pos = rest at hx
  cases hx with
  | non =>
   have en := nextC_nil hd
   rw [en] at l3 h
   replace h : Lex a Hd1 H3 pos (.none) ln [] := h
   walk_at "sh"
   repeat walk_at "f"
   refine CmpW.isN rfl ?_
   refine iteT rfl ?_
   repeat walk_at "f"
   refine SetW.shT h fun H4 h4 => ?_
   repeat walk_at "f"
   exact ⟨rfl, _, ln, _, l1, l2, kH, h4, hd⟩
  | spEnd =>
   have en := nextC_nil hd
   rw [en] at l3 h
   replace h : Lex a Hd1 H3 pos (.str (S [32])) ln [] := h
   walk_at "sh"
   repeat walk_at "f"
   refine CmpW.isN rfl ?_
   refine iteF rfl ?_
   repeat walk_at "f"
   walk_at "sh"
   repeat walk_at "f"
   refine iteT (by decide +kernel) ?_
   repeat walk_at "f"
   refine CB.val ?_
   repeat walk_at "f"
   refine TrW.strW (Nat.le_of_ble_eq_true rfl) ?_
   refine iteT rfl ?_
   repeat walk_at "f"
   refine SetW.shS h fun H4 h4 => ?_
   repeat walk_at "f"
   exact ⟨rfl, _, ln, _, l1, l2, kH, h4, hd⟩
  | @spWs n r res hn k =>
   obtain ⟨en, hlt, hd2⟩ := nextC_cons hd
   rw [en] at l3 h
   replace h : Lex a Hd1 H3 (pos + 1) (.str (S [32])) ln [] := h
   walk_at "sh"
   repeat walk_at "f"
   refine CmpW.isN rfl ?_
   refine iteF rfl ?_
   repeat walk_at "f"
   walk_at "sh"
   repeat walk_at "f"
   refine iteT (by decide +kernel) ?_
   repeat walk_at "f"
   refine CB.val ?_
   repeat walk_at "f"
   refine TrW.strW (Nat.le_of_ble_eq_true rfl) ?_
   refine iteF rfl ?_
   repeat walk_at "f"
   walk_at "sh"
   refine CmpW.inOne ?_
   refine iteT (decide_eq_true hn) ?_
   repeat walk_at "f"
   walk_at "sh"
   repeat walk_at "f"
   refine iteF rfl ?_
   repeat walk_at "f"
   refine CB.val ?_
   repeat walk_at "f"
   walk_at "sh"
   refine TrW.strW (by decide) ?_
   refine iteF rfl ?_
   repeat walk_at "f"
   refine CB.val ?_
   repeat walk_at "f"
   walk_at "sh"
   refine TrW.bool ?_
   refine iteT rfl ?_
   refine CB.val ?_
   repeat walk_at "f"
   refine TrW.bool ?_
   refine iteF rfl ?_
   repeat walk_at "f"
   exact LexI.go (st' := .sp) hlt (Nat.lt_succ_self _) l1 l2 kH h (fun _ q => nomatch q) (Nat.zero_le _) hd2 k
  | @spCom r res k =>
   obtain ⟨en, hlt, hd2⟩ := nextC_cons hd
   rw [en] at l3 h
   replace h : Lex a Hd1 H3 (pos + 1) (.str (S [32])) ln [] := h
   walk_at "sh"
   repeat walk_at "f"
   refine CmpW.isN rfl ?_
   refine iteF rfl ?_
   repeat walk_at "f"
   walk_at "sh"
   repeat walk_at "f"
   refine iteT (by decide +kernel) ?_
   repeat walk_at "f"
   refine CB.val ?_
   repeat walk_at "f"
   refine TrW.strW (Nat.le_of_ble_eq_true rfl) ?_
   refine iteF rfl ?_
   repeat walk_at "f"
   walk_at "sh"
   refine CmpW.inOne ?_
   refine iteF (by decide) ?_
   repeat walk_at "f"
   walk_at "sh"
   refine CmpW.inOne ?_
   refine iteT (by decide) ?_
   walk_at "f"
   walk_at "f"
   refine EW.meth0 ?_
   repeat walk_at "f"
   walk_at "sh"
   refine ⟨_, _, MethAt.readline h.ioAt, ?_⟩
   refine (CallKW.toCall (CodeW.toKW (c628 (by first | exact room_le hroom hrm tt | exact room_le hroom hr tt | (show 3 ≤ d.room; omega)) h.ioAt hb))).mono fun v H4 h4 => ?_
   have h4 : ∃ p, pos < p ∧ Lex a Hd1 H4 p (.str (S [32])) ln [] ∧ a.buf.drop p = dropLine r := by
    rcases h4 with ⟨e, rfl⟩ | ⟨e, rfl⟩
    ·have e2 : r = [] := by rw [← hd2]; exact List.drop_eq_nil_of_le e
     exact ⟨pos + 1, Nat.lt_succ_self _, h, by rw [hd2, e2]; rfl⟩
    ·refine ⟨lineEnd a.buf (pos + 1), ?_, h.move, by rw [drop_line e, hd2]⟩
     rcases find_line e with ⟨_, e2⟩ | ⟨k, _, e2, _, e4⟩ <;> omega
   clear h
   obtain ⟨p, hpp, h, hd3⟩ := h4
   refine SS.one ?_
   refine ST.augA ?_
   repeat walk_at "f"
   walk_at "sh"
   repeat walk_at "f"
   refine IpW.addI ?_
   refine SetW.shL h fun H5 h5 => ?_
   repeat walk_at "f"
   exact LexI.go (st' := .sp) hlt hpp l1 l2 kH h5 (fun _ q => nomatch q) (Nat.zero_le _) hd3 k
  | @spQ n r res hn k =>
   obtain ⟨en, hlt, hd2⟩ := nextC_cons hd
   rw [en] at l3 h
   replace h : Lex a Hd1 H3 (pos + 1) (.str (S [32])) ln [] := h
   walk_at "sh"
   repeat walk_at "f"
   refine CmpW.isN rfl ?_
   refine iteF rfl ?_
   repeat walk_at "f"
   walk_at "sh"
   repeat walk_at "f"
   refine iteT (by decide +kernel) ?_
   repeat walk_at "f"
   refine CB.val ?_
   repeat walk_at "f"
   refine TrW.strW (Nat.le_of_ble_eq_true rfl) ?_
   refine iteF rfl ?_
   repeat walk_at "f"
   have hz := qN hn
   walk_at "sh"
   refine CmpW.inOne ?_
   refine iteF (decide_eq_false hz.1) ?_
   repeat walk_at "f"
   walk_at "sh"
   refine CmpW.inOne ?_
   refine iteF (decide_eq_false hz.2.1) ?_
   repeat walk_at "f"
   refine CB.val ?_
   repeat walk_at "f"
   walk_at "sh"
   refine TrW.bool ?_
   refine iteT rfl ?_
   repeat walk_at "f"
   walk_at "sh"
   refine CmpW.inOne ?_
   refine iteF (decide_eq_false hz.2.2.1) ?_
   repeat walk_at "f"
   walk_at "sh"
   refine CmpW.inOne ?_
   refine iteF (decide_eq_false hz.2.2.2) ?_
   repeat walk_at "f"
   refine GetW.pc h (by first | exact room_le hroom hrm tt | exact room_le hroom hr tt | (show 2 ≤ d.room; omega)) ?_
   refine CmpW.inOne ?_
   refine iteF rfl ?_
   repeat walk_at "f"
   walk_at "sh"
   refine CmpW.inOne ?_
   refine iteT (decide_eq_true hn) ?_
   repeat walk_at "f"
   refine CB.val ?_
   repeat walk_at "f"
   walk_at "sh"
   refine TrW.bool ?_
   refine iteF rfl ?_
   repeat walk_at "f"
   refine SetW.shS h fun H4 h4 => ?_
   repeat walk_at "f"
   exact LexI.go (st' := .q n) hlt (Nat.lt_succ_self _) l1 l2 kH h4 (fun m q => by cases q; exact hn) (Nat.zero_le _) hd2 k
  | @spW n r res hn k =>
   obtain ⟨en, hlt, hd2⟩ := nextC_cons hd
   rw [en] at l3 h
   replace h : Lex a Hd1 H3 (pos + 1) (.str (S [32])) ln [] := h
   walk_at "sh"
   repeat walk_at "f"
   refine CmpW.isN rfl ?_
   refine iteF rfl ?_
   repeat walk_at "f"
   walk_at "sh"
   repeat walk_at "f"
   refine iteT (by decide +kernel) ?_
   repeat walk_at "f"
   refine CB.val ?_
   repeat walk_at "f"
   refine TrW.strW (Nat.le_of_ble_eq_true rfl) ?_
   refine iteF rfl ?_
   repeat walk_at "f"
   have hz := sN hn
   walk_at "sh"
   refine CmpW.inOne ?_
   refine iteF (decide_eq_false hz.1) ?_
   repeat walk_at "f"
   walk_at "sh"
   refine CmpW.inOne ?_
   refine iteF (decide_eq_false hz.2.1) ?_
   repeat walk_at "f"
   refine CB.val ?_
   repeat walk_at "f"
   walk_at "sh"
   refine TrW.bool ?_
   refine iteT rfl ?_
   repeat walk_at "f"
   walk_at "sh"
   refine CmpW.inOne ?_
   refine iteF (decide_eq_false hz.2.2.1) ?_
   repeat walk_at "f"
   walk_at "sh"
   refine CmpW.inOne ?_
   by_cases hw : n ∈ wcW
   ·refine iteT (decide_eq_true hw) ?_
    repeat walk_at "f"
    refine SetW.shT h fun H4 h4 => ?_
    repeat walk_at "f"
    refine SetW.shS h4 fun H5 h5 => ?_
    repeat walk_at "f"
    exact LexI.go (st' := .a) hlt (Nat.lt_succ_self _) l1 l2 kH h5.stA (fun _ q => nomatch q) (Nat.succ_le_succ (Nat.zero_le _)) hd2 k
   refine iteF (decide_eq_false hw) ?_
   repeat walk_at "f"
   refine GetW.pc h (by first | exact room_le hroom hrm tt | exact room_le hroom hr tt | (show 2 ≤ d.room; omega)) ?_
   refine CmpW.inOne ?_
   refine iteF rfl ?_
   repeat walk_at "f"
   walk_at "sh"
   refine CmpW.inOne ?_
   refine iteF (decide_eq_false hz.2.2.2) ?_
   repeat walk_at "f"
   refine CB.val ?_
   repeat walk_at "f"
   walk_at "sh"
   refine TrW.bool ?_
   refine iteT rfl ?_
   repeat walk_at "f"
   refine SetW.shT h fun H4 h4 => ?_
   repeat walk_at "f"
   refine SetW.shS h4 fun H5 h5 => ?_
   repeat walk_at "f"
   exact LexI.go (st' := .a) hlt (Nat.lt_succ_self _) l1 l2 kH h5.stA (fun _ q => nomatch q) (Nat.succ_le_succ (Nat.zero_le _)) hd2 k
  | @qEnd n tok q r res k =>
   obtain ⟨en, hlt, hd2⟩ := nextC_cons hd
   rw [en] at l3 h
   replace h : Lex a Hd1 H3 (pos + 1) (.str (S [n])) ln tok := h
   have hn := hq n rfl
   walk_at "sh"
   repeat walk_at "f"
   refine CmpW.isN rfl ?_
   refine iteF rfl ?_
   repeat walk_at "f"
   walk_at "sh"
   repeat walk_at "f"
   refine iteF (neSp hn) ?_
   repeat walk_at "f"
   walk_at "sh"
   repeat walk_at "f"
   walk_at "sh"
   refine CmpW.inOne ?_
   refine iteT (decide_eq_true hn) ?_
   repeat walk_at "f"
   refine CB.val ?_
   repeat walk_at "f"
   refine TrW.strW (Nat.le_of_ble_eq_true rfl) ?_
   refine iteF rfl ?_
   repeat walk_at "f"
   walk_at "sh"
   repeat walk_at "f"
   refine iteT (beq_self_eq_true _) ?_
   repeat walk_at "f"
   refine CB.val ?_
   repeat walk_at "f"
   walk_at "sh"
   refine TrW.bool ?_
   refine iteF rfl ?_
   repeat walk_at "f"
   refine SetW.shS h fun H4 h4 => ?_
   repeat walk_at "f"
   exact LexI.go (st' := .a) hlt (Nat.lt_succ_self _) (by walk_at "lk") (by walk_at "lk") kH h4.stA (fun _ q => nomatch q) (by omega) hd2 k
  | @qIn n m tok q r res hm h2 k =>
   obtain ⟨en, hlt, hd2⟩ := nextC_cons hd
   rw [en] at l3 h
   replace h : Lex a Hd1 H3 (pos + 1) (.str (S [n])) ln tok := h
   have hn := hq n rfl
   walk_at "sh"
   repeat walk_at "f"
   refine CmpW.isN rfl ?_
   refine iteF rfl ?_
   repeat walk_at "f"
   walk_at "sh"
   repeat walk_at "f"
   refine iteF (neSp hn) ?_
   repeat walk_at "f"
   walk_at "sh"
   repeat walk_at "f"
   walk_at "sh"
   refine CmpW.inOne ?_
   refine iteT (decide_eq_true hn) ?_
   repeat walk_at "f"
   refine CB.val ?_
   repeat walk_at "f"
   refine TrW.strW (Nat.le_of_ble_eq_true rfl) ?_
   refine iteF rfl ?_
   repeat walk_at "f"
   walk_at "sh"
   repeat walk_at "f"
   refine iteF (by simpa using hm) ?_
   repeat walk_at "f"
   refine CB.and (AndW.cons ?_)
   refine CB.val ?_
   repeat walk_at "f"
   walk_at "sh"
   refine TrW.bool ?_
   refine iteT rfl ?_
   refine AndW.cons ?_
   repeat walk_at "f"
   walk_at "sh"
   refine CmpW.inOne ?_
   by_cases h92 : m = 92
   ·refine iteT (decide_eq_true (by rw [h92]; exact .head _)) ?_
    refine AndW.cons ?_
    repeat walk_at "f"
    walk_at "sh"
    repeat walk_at "f"
    walk_at "sh"
    refine CmpW.inOne ?_
    have hn39 := h2 h92
    refine iteF (decide_eq_false (by rw [hn39]; decide)) ?_
    refine iteF rfl ?_
    refine SS.one ?_
    refine ST.augA ?_
    repeat walk_at "f"
    walk_at "sh"
    repeat walk_at "f"
    refine IpW.addSS (by rw [List.length_singleton]; omega) ?_
    refine SetW.shT h fun H4 h4 => ?_
    repeat walk_at "f"
    exact LexI.go (st' := .q n) hlt (Nat.lt_succ_self _) (by walk_at "lk") (by walk_at "lk") kH h4 hq (lenS ht) hd2 k
   refine iteF (decide_eq_false (by simpa using h92)) ?_
   refine iteF rfl ?_
   refine SS.one ?_
   refine ST.augA ?_
   repeat walk_at "f"
   walk_at "sh"
   repeat walk_at "f"
   refine IpW.addSS (by rw [List.length_singleton]; omega) ?_
   refine SetW.shT h fun H4 h4 => ?_
   repeat walk_at "f"
   exact LexI.go (st' := .q n) hlt (Nat.lt_succ_self _) (by walk_at "lk") (by walk_at "lk") kH h4 hq (lenS ht) hd2 k
  | @aEnd tok q =>
   have en := nextC_nil hd
   rw [en] at l3 h
   replace h : Lex a Hd1 H3 pos (.str (S [97])) ln tok := h
   walk_at "sh"
   repeat walk_at "f"
   refine CmpW.isN rfl ?_
   refine iteF rfl ?_
   repeat walk_at "f"
   walk_at "sh"
   repeat walk_at "f"
   refine iteF (by decide +kernel) ?_
   repeat walk_at "f"
   walk_at "sh"
   repeat walk_at "f"
   walk_at "sh"
   refine CmpW.inOne ?_
   refine iteF (by decide) ?_
   repeat walk_at "f"
   walk_at "sh"
   repeat walk_at "f"
   walk_at "sh"
   refine CmpW.inOne ?_
   refine iteF (by decide) ?_
   repeat walk_at "f"
   walk_at "sh"
   repeat walk_at "f"
   refine ⟨Nat.le_of_ble_eq_true rfl, fun D hD => ?_⟩
   obtain ⟨kD, h4⟩ := h.alloc (x := .tup [.str (S (lit "a")), .str (S (lit "c"))]) hD
   have kH2 := kH.trans kD
   refine CmpW.inAC (hset_same _ _ _) ?_
   clear kD h kH
   generalize hset H3 D (.tup [.str (S (lit "a")), .str (S (lit "c"))]) = H4 at h4 ⊢
   generalize hset Hd1 D (.tup [.str (S (lit "a")), .str (S (lit "c"))]) = Hd2 at h4 kH2
   refine iteT rfl ?_
   repeat walk_at "f"
   refine CB.val ?_
   repeat walk_at "f"
   refine TrW.strW (Nat.le_of_ble_eq_true rfl) ?_
   refine iteT rfl ?_
   repeat walk_at "f"
   refine SetW.shS h4 fun H5 h5 => ?_
   repeat walk_at "f"
   exact ⟨rfl, _, ln, _, l1, l2, kH2, h5, hd⟩
  | @aWs n tok q r hn h2 =>
   obtain ⟨en, hlt, hd2⟩ := nextC_cons hd
   rw [en] at l3 h
   replace h : Lex a Hd1 H3 (pos + 1) (.str (S [97])) ln tok := h
   walk_at "sh"
   repeat walk_at "f"
   refine CmpW.isN rfl ?_
   refine iteF rfl ?_
   repeat walk_at "f"
   walk_at "sh"
   repeat walk_at "f"
   refine iteF (by decide +kernel) ?_
   repeat walk_at "f"
   walk_at "sh"
   repeat walk_at "f"
   walk_at "sh"
   refine CmpW.inOne ?_
   refine iteF (by decide) ?_
   repeat walk_at "f"
   walk_at "sh"
   repeat walk_at "f"
   walk_at "sh"
   refine CmpW.inOne ?_
   refine iteF (by decide) ?_
   repeat walk_at "f"
   walk_at "sh"
   repeat walk_at "f"
   refine ⟨Nat.le_of_ble_eq_true rfl, fun D hD => ?_⟩
   obtain ⟨kD, h4⟩ := h.alloc (x := .tup [.str (S (lit "a")), .str (S (lit "c"))]) hD
   have kH2 := kH.trans kD
   refine CmpW.inAC (hset_same _ _ _) ?_
   clear kD h kH
   generalize hset H3 D (.tup [.str (S (lit "a")), .str (S (lit "c"))]) = H4 at h4 ⊢
   generalize hset Hd1 D (.tup [.str (S (lit "a")), .str (S (lit "c"))]) = Hd2 at h4 kH2
   refine iteT rfl ?_
   repeat walk_at "f"
   refine CB.val ?_
   repeat walk_at "f"
   refine TrW.strW (Nat.le_of_ble_eq_true rfl) ?_
   refine iteF rfl ?_
   repeat walk_at "f"
   walk_at "sh"
   refine CmpW.inOne ?_
   refine iteT (decide_eq_true hn) ?_
   repeat walk_at "f"
   walk_at "sh"
   repeat walk_at "f"
   refine iteF rfl ?_
   repeat walk_at "f"
   refine SetW.shS h4 fun H5 h5 => ?_
   repeat walk_at "f"
   refine CB.val ?_
   repeat walk_at "f"
   walk_at "sh"
   refine TrW.strW (by omega) ?_
   by_cases ht0 : tok = []
   ·refine iteF (by rw [ht0]; rfl) ?_
    repeat walk_at "f"
    refine CB.val ?_
    repeat walk_at "f"
    walk_at "sh"
    refine TrW.bool ?_
    refine iteT rfl ?_
    refine CB.val ?_
    repeat walk_at "f"
    refine TrW.bool ?_
    refine iteT (h2.resolve_left fun q => q ht0) ?_
    repeat walk_at "f"
    exact ⟨rfl, _, ln, _, l1, l2, kH2, h5.stSp, hd2⟩
   refine iteT (by cases tok with | nil => exact absurd rfl ht0 | cons => rfl) ?_
   refine iteT rfl ?_
   repeat walk_at "f"
   exact ⟨rfl, _, ln, _, l1, l2, kH2, h5.stSp, hd2⟩
  | @aQ n tok q r res hn k =>
   obtain ⟨en, hlt, hd2⟩ := nextC_cons hd
   rw [en] at l3 h
   replace h : Lex a Hd1 H3 (pos + 1) (.str (S [97])) ln tok := h
   walk_at "sh"
   repeat walk_at "f"
   refine CmpW.isN rfl ?_
   refine iteF rfl ?_
   repeat walk_at "f"
   walk_at "sh"
   repeat walk_at "f"
   refine iteF (by decide +kernel) ?_
   repeat walk_at "f"
   walk_at "sh"
   repeat walk_at "f"
   walk_at "sh"
   refine CmpW.inOne ?_
   refine iteF (by decide) ?_
   repeat walk_at "f"
   walk_at "sh"
   repeat walk_at "f"
   walk_at "sh"
   refine CmpW.inOne ?_
   refine iteF (by decide) ?_
   repeat walk_at "f"
   walk_at "sh"
   repeat walk_at "f"
   refine ⟨Nat.le_of_ble_eq_true rfl, fun D hD => ?_⟩
   obtain ⟨kD, h4⟩ := h.alloc (x := .tup [.str (S (lit "a")), .str (S (lit "c"))]) hD
   have kH2 := kH.trans kD
   refine CmpW.inAC (hset_same _ _ _) ?_
   clear kD h kH
   generalize hset H3 D (.tup [.str (S (lit "a")), .str (S (lit "c"))]) = H4 at h4 ⊢
   generalize hset Hd1 D (.tup [.str (S (lit "a")), .str (S (lit "c"))]) = Hd2 at h4 kH2
   refine iteT rfl ?_
   repeat walk_at "f"
   refine CB.val ?_
   repeat walk_at "f"
   refine TrW.strW (Nat.le_of_ble_eq_true rfl) ?_
   have hz := qN hn
   refine iteF rfl ?_
   repeat walk_at "f"
   walk_at "sh"
   refine CmpW.inOne ?_
   refine iteF (decide_eq_false hz.1) ?_
   repeat walk_at "f"
   walk_at "sh"
   refine CmpW.inOne ?_
   refine iteF (decide_eq_false hz.2.1) ?_
   repeat walk_at "f"
   walk_at "sh"
   repeat walk_at "f"
   refine iteF (by decide +kernel) ?_
   repeat walk_at "f"
   refine CB.val ?_
   repeat walk_at "f"
   walk_at "sh"
   refine TrW.bool ?_
   refine iteT rfl ?_
   repeat walk_at "f"
   walk_at "sh"
   refine CmpW.inOne ?_
   refine iteT (decide_eq_true hn) ?_
   repeat walk_at "f"
   refine SetW.shS h4 fun H5 h5 => ?_
   repeat walk_at "f"
   exact LexI.go (st' := .q n) hlt (Nat.lt_succ_self _) l1 l2 kH2 h5 (fun m q => by cases q; exact hn) (by omega) hd2 k
  | @aW n tok q r res hn k =>
   obtain ⟨en, hlt, hd2⟩ := nextC_cons hd
   rw [en] at l3 h
   replace h : Lex a Hd1 H3 (pos + 1) (.str (S [97])) ln tok := h
   walk_at "sh"
   repeat walk_at "f"
   refine CmpW.isN rfl ?_
   refine iteF rfl ?_
   repeat walk_at "f"
   walk_at "sh"
   repeat walk_at "f"
   refine iteF (by decide +kernel) ?_
   repeat walk_at "f"
   walk_at "sh"
   repeat walk_at "f"
   walk_at "sh"
   refine CmpW.inOne ?_
   refine iteF (by decide) ?_
   repeat walk_at "f"
   walk_at "sh"
   repeat walk_at "f"
   walk_at "sh"
   refine CmpW.inOne ?_
   refine iteF (by decide) ?_
   repeat walk_at "f"
   walk_at "sh"
   repeat walk_at "f"
   refine ⟨Nat.le_of_ble_eq_true rfl, fun D hD => ?_⟩
   obtain ⟨kD, h4⟩ := h.alloc (x := .tup [.str (S (lit "a")), .str (S (lit "c"))]) hD
   have kH2 := kH.trans kD
   refine CmpW.inAC (hset_same _ _ _) ?_
   clear kD h kH
   generalize hset H3 D (.tup [.str (S (lit "a")), .str (S (lit "c"))]) = H4 at h4 ⊢
   generalize hset Hd1 D (.tup [.str (S (lit "a")), .str (S (lit "c"))]) = Hd2 at h4 kH2
   refine iteT rfl ?_
   repeat walk_at "f"
   refine CB.val ?_
   repeat walk_at "f"
   refine TrW.strW (Nat.le_of_ble_eq_true rfl) ?_
   have hz := sN hn
   refine iteF rfl ?_
   repeat walk_at "f"
   walk_at "sh"
   refine CmpW.inOne ?_
   refine iteF (decide_eq_false hz.1) ?_
   repeat walk_at "f"
   walk_at "sh"
   refine CmpW.inOne ?_
   refine iteF (decide_eq_false hz.2.1) ?_
   repeat walk_at "f"
   walk_at "sh"
   repeat walk_at "f"
   refine iteF (by decide +kernel) ?_
   repeat walk_at "f"
   refine CB.val ?_
   repeat walk_at "f"
   walk_at "sh"
   refine TrW.bool ?_
   refine iteT rfl ?_
   repeat walk_at "f"
   walk_at "sh"
   refine CmpW.inOne ?_
   refine iteF (decide_eq_false hz.2.2.2) ?_
   repeat walk_at "f"
   refine CB.val ?_
   repeat walk_at "f"
   walk_at "sh"
   refine TrW.bool ?_
   refine iteT rfl ?_
   repeat walk_at "f"
   walk_at "sh"
   refine CmpW.inOne ?_
   refine iteF (decide_eq_false hz.2.2.1) ?_
   repeat walk_at "f"
   refine CB.or (OrW.cons ?_)
   repeat walk_at "f"
   walk_at "sh"
   refine CmpW.inOne ?_
   by_cases hw : n ∈ wcW
   ·refine iteT (decide_eq_true hw) ?_
    refine iteT rfl ?_
    refine SS.one ?_
    refine ST.augA ?_
    repeat walk_at "f"
    walk_at "sh"
    repeat walk_at "f"
    refine IpW.addSS (by rw [List.length_singleton]; omega) ?_
    refine SetW.shT h4 fun H5 h5 => ?_
    repeat walk_at "f"
    exact LexI.go (st' := .a) hlt (Nat.lt_succ_self _) (by walk_at "lk") (by walk_at "lk") kH2 h5 (fun _ q => nomatch q) (lenS ht) hd2 k
   refine iteF (decide_eq_false hw) ?_
   refine OrW.cons ?_
   repeat walk_at "f"
   walk_at "sh"
   refine CmpW.inOne ?_
   refine iteF (decide_eq_false hz.2.2.2) ?_
   refine OrW.cons ?_
   repeat walk_at "f"
   refine CB.val ?_
   repeat walk_at "f"
   walk_at "sh"
   refine TrW.bool ?_
   refine iteT rfl ?_
   repeat walk_at "f"
   refine GetW.pc h4 (by first | exact room_le hroom hrm tt | exact room_le hroom hr tt | (show 2 ≤ d.room; omega)) ?_
   refine CmpW.notInNil ?_
   refine iteT rfl ?_
   refine iteT rfl ?_
   refine SS.one ?_
   refine ST.augA ?_
   repeat walk_at "f"
   walk_at "sh"
   repeat walk_at "f"
   refine IpW.addSS (by rw [List.length_singleton]; omega) ?_
   refine SetW.shT h4 fun H5 h5 => ?_
   repeat walk_at "f"
   exact LexI.go (st' := .a) hlt (Nat.lt_succ_self _) (by walk_at "lk") (by walk_at "lk") kH2 h5 (fun _ q => nomatch q) (lenS ht) hd2 k
 clear h hs hx
 rintro L1 H1 ⟨pos, ln, Hd1, l1, l2, kH, h, hd⟩
 obtain ⟨tok, q, st, rest⟩ := res
 replace h : Lex a Hd1 H1 pos (avS st) ln tok := h
 replace l2 : L1 (o "quoted") = some (.bool q) := l2
 repeat walk_at "f"
 walk_at "sh"
 repeat walk_at "f"
 refine SetW.shT h fun H2 h2 => ?_
 rw [show lit "" = [] from rfl] at h2
 have fin : ∀ v : AV, v = (if q = false ∧ tok = [] then .none else .str (S tok)) → Q v H2 := fun v e => by
  rw [← hQ]; exact ⟨e, pos, ln, Hd1, kH, h2, hd⟩
 with_reducible refine Then.next ?_
 with_reducible refine SS.seq (fun L2 H3 => H3 = H2 ∧ L2 (o "self") = some (.ref a.y) ∧ L2 (o "result") = some (if q = false ∧ tok = [] then .none else .str (S tok))) (fun _ hPs => ?_) ?_
 ·repeat walk_at "f"
  refine CB.and (AndW.cons ?_)
  refine CB.val ?_
  repeat walk_at "f"
  walk_at "sh"
  refine TrW.bool ?_
  refine iteT rfl ?_
  refine AndW.cons ?_
  repeat walk_at "f"
  refine CB.val ?_
  repeat walk_at "f"
  refine TrW.bool ?_
  cases q with
  | true =>
   refine iteF rfl ?_
   refine iteF rfl ?_
   repeat walk_at "f"
   exact ⟨rfl, rfl, by walk_at "lk", by rw [if_neg (by intro q; cases q.1)]; walk_at "lk"⟩
  | false =>
   refine iteT rfl ?_
   refine AndW.cons ?_
   repeat walk_at "f"
   by_cases ht0 : tok = []
   ·refine iteT (by rw [ht0]; rfl) ?_
    refine AndW.nil ?_
    refine iteT rfl ?_
    repeat walk_at "f"
    exact ⟨rfl, rfl, by walk_at "lk", by rw [if_pos ⟨rfl, ht0⟩]; walk_at "lk"⟩
   ·refine iteF (by cases tok with | nil => exact absurd rfl ht0 | cons => rfl) ?_
    refine iteF rfl ?_
    repeat walk_at "f"
    exact ⟨rfl, rfl, by walk_at "lk", by rw [if_neg (fun q => ht0 q.2)]; walk_at "lk"⟩
 rintro L2 _ ⟨rfl, m1, m2⟩
 repeat walk_at "f"
 walk_at "sh"
 repeat walk_at "f"
 refine iteF rfl ?_
 repeat walk_at "f"
 exact fin _ rfl
end
end
end
section
set_option maxHeartbeats 4000000
noncomputable section
noncomputable def dqO : Obj := { cls := .type "collections.deque", data := .fields #[.none, rawInt 0] }
theorem noBool_dq : typeLookup (.type "collections.deque") "__bool__" = pure none := by rw [typeLookup_type, builtinLookup_eq_fast]; kernel_rfl
theorem slot_dq_len : Slot "collections.deque" "__len__" "collections.deque.__len__" :=
 .of (owner := "collections.deque") (n := "__len__") (by rw [typeLookup_type, builtinLookup_eq_fast]; kernel_rfl) (by decide +kernel) (by decide +kernel) (by decide +kernel)
  (by first | exact .inl (by decide +kernel) | exact .inr (by decide +kernel)) (by rw [isSubtype_type]; kernel_rfl)
theorem entry_dq_len : entryFor table "collections.deque.__len__" = some Builtin.«collections.deque.__len__» := entryFor_of_tree (by kernel_rfl)
theorem args_dq_len (a : Value) : argsOk "collections.deque.__len__" ⟨[a], []⟩ := by unfold argsOk; kernel_rfl
theorem mro_dq : mroOf (.type "collections.deque") = pure [.type "collections.deque", .type "object"] := by rw [mroOf_type]; kernel_rfl
theorem lookup_dq_new : typeLookup (.type "collections.deque") "__new__" = pure (some (.builtin "collections.deque.__new__")) := by rw [typeLookup_type, builtinLookup_eq_fast]; kernel_rfl
theorem slot_dq_init : Slot "collections.deque" "__init__" "collections.deque.__init__" :=
 .of (owner := "collections.deque") (n := "__init__") (by rw [typeLookup_type, builtinLookup_eq_fast]; kernel_rfl) (by decide +kernel) (by decide +kernel) (by decide +kernel)
  (by first | exact .inl (by decide +kernel) | exact .inr (by decide +kernel)) (by rw [isSubtype_type]; kernel_rfl)
theorem called_dq : TypeCalled "collections.deque" "collections.deque.__new__" "collections.deque.__init__" :=
 ⟨by decide +kernel, by decide +kernel, ⟨_, _, mro_dq⟩, madeBy_type mro_dq lookup_dq_new (by decide +kernel), by decide +kernel, by rw [isSubtype_type]; kernel_rfl, slot_dq_init⟩
theorem typeCall_dq : checkTypeCall "collections.deque" ⟨[], []⟩ = pure () := by kernel_rfl
theorem newCall_dq : checkBuiltinCall "collections.deque.__new__" ⟨[.type "collections.deque"], []⟩ = pure () := by kernel_rfl
theorem entry_dq_new : entryFor table "collections.deque.__new__" = some Builtin.«collections.deque.__new__» := entryFor_of_tree (by kernel_rfl)
theorem entry_dq_init : entryFor table "collections.deque.__init__" = some Builtin.«collections.deque.__init__» := entryFor_of_tree (by kernel_rfl)
theorem plain_dq_new : plainId "collections.deque.__new__" = true := by decide +kernel
theorem args_dq_init (a : Value) : argsOk "collections.deque.__init__" ⟨[a], []⟩ := by unfold argsOk; kernel_rfl
theorem sub_dq : isSubtype (.type "collections.deque") (.type "collections.deque") = pure true := by rw [isSubtype_type]; kernel_rfl
section
variable {c : Cx} {L : AL} {H : AH} {R : List (Addr × Obj)} {s : Shared}
theorem TrW.deque {d : Addr} {P : Bool → AH → Prop} (hd : H d = some (.raw dqO)) (h : P false H) : TrW c (.ref d) L H P := by
 rintro _ rfl R s S
 obtain ⟨ob, g, _, _, rfl, _⟩ := S.hp _ _ hd
 have ty : s.TypeIs (.ref d) "collections.deque" := ⟨_, g, rfl⟩
 have key : wpAny (model prg c.d.w) c.d.A (runValue (.builtin "len" ⟨[.ref d], []⟩)) (fun r s' => ∃ t tk, r = .int 0 t ∧ s' = { s with toks := tk }) nE s := by
  refine wpAny_runValue (codeAny_builtin entry_len ?_)
  rw [Around.under_plainId plain_len _]
  unfold Builtin.«len»
  refine wpAny_bind (m := oneArg "len" _) (wpAny_pure ?_)
  refine wpAny_bind (m := callSpecial? (.ref d) (Str.ofString "__len__")) (wpAny_callSpecial?_slot (name := Str.ofString "__len__") ty slot_dq_len
   (wpAny_call_entry slot_dq_len ty entry_dq_len ?_ (args_dq_len _)))
  show wpAny _ _ (Builtin.Deque.size (.ref d) >>= fun n => retInt (n : Nat)) _ _ s
  unfold Builtin.Deque.size
  refine wpAny_bind (wpAny_bind ?_)
  refine wpAny_fieldsOf g rfl (wpAny_pure (wpAny_bind (wpAny_mkInt (wpAny_pure ⟨_, rfl, ?_⟩))))
  refine wpAny_bind (wpAny_holding (wpAny_pure ?_))
  refine wpAny_bind (wpAny_letGo ?_)
  show wpAny _ _ (if ((0 : Nat) : Int) < 0 then _ else _) _ _ _
  rw [if_neg (by omega)]
  show wpAny _ _ (if ((0 : Nat) : Int) ≥ 2 ^ 63 then _ else _) _ _ _
  rw [if_neg (by omega)]
  exact wpAny_bind (wpAny_mkInt (wpAny_pure ⟨_, _, rfl, rfl⟩))
 unfold truthy
 refine wpAny_bind (wpAny_callSpecial?_none (name := Str.ofString "__bool__") ty noBool_dq ?_)
 refine wpAny_bind (wpAny_specialOf (name := Str.ofString "__len__") ty slot_dq_len.lookup ?_)
 refine wpAny_bind (wpAny_mono key (fun r s' h' => ?_) fun _ _ e => e)
 obtain ⟨t, tk, rfl, rfl⟩ := h'
 exact wpAny_pure ⟨H, S.toks, h⟩
theorem code_dq_new {E : Value → Shared → Prop} {A : Around} {w : World} {Q₁ : Value → Shared → Prop} (h : Q₁ (.ref s.heap.objs.size) { s with heap := s.heap.push dqO }) :
  codeAny (model prg w) A (.call (.builtin "collections.deque.__new__") ⟨[.type "collections.deque"], []⟩) (wants Q₁ E) s := by
 refine codeAny_of_tree ?_
 show wpAny _ A.in1 (do checkBuiltinCall "collections.deque.__new__" ⟨[.type "collections.deque"], []⟩; again (.builtin "collections.deque.__new__" ⟨[.type "collections.deque"], []⟩)) _ _ s
 refine wpAny_bind (wpAny_of_eq newCall_dq (wpAny_pure ⟨plainId_quiet plain_dq_new _, codeAny_builtin entry_dq_new ?_⟩))
 rw [Around.under_plainId plain_dq_new _]
 unfold Builtin.«collections.deque.__new__» Builtin.Deque.newArgs Builtin.Deque.new Builtin.Deque.ty
 have hsub := sub_dq
 obtain ⟨hp, g, d, tk, os⟩ := s
 wp_walk
 exact h
theorem CallW.deque {Q : AV → AH → Prop} (h : ∀ D, H D = none → Q (.ref D) (hset H D (.raw dqO))) : CallW c (.type "collections.deque") [] L H Q := by
 rintro _ (_ | _) R s S
 refine callType_codes (T := "collections.deque") (Bi := Builtin.«collections.deque.__init__») (Q₁ := fun r s₁ => r = .ref s.heap.objs.size ∧ s₁ = { s with heap := s.heap.push dqO }) called_dq typeCall_dq entry_dq_init (code_dq_new ⟨rfl, rfl⟩) ?_
 rintro obj s₁ ⟨rfl, rfl⟩
 have g0 : (s.heap.push dqO).get? s.heap.objs.size = some dqO := Heap.get?_push_size _ rfl
 refine ⟨⟨_, g0, rfl⟩, args_dq_init _, ?_⟩
 obtain ⟨n1, S1⟩ := S.push (ao := .raw dqO) (o := dqO) ⟨rfl, rfl⟩
 obtain ⟨o1, m, pre, post, hr, F, N, h1, h2, back⟩ := S1.turn (hset_same _ _ _)
 obtain ⟨rfl, _⟩ := hr
 obtain ⟨U1, U2⟩ := news_upd (f := Obj.mapFields (·.setIfInBounds 0 .none)) (o' := dqO) F N h1 h2 rfl rfl
 have S2 := back { s with heap := (s.heap.push dqO).update s.heap.objs.size (Obj.mapFields (·.setIfInBounds 0 .none)) } dqO (.raw dqO) ⟨rfl, rfl⟩ U1 U2 S1.gens rfl
 have e : hset (hset H s.heap.objs.size (.raw dqO)) s.heap.objs.size (.raw dqO) = hset H s.heap.objs.size (.raw dqO) := funext fun b => by
  by_cases q : b = s.heap.objs.size
  ·rw [q, hset_same, hset_same]
  ·rw [hset_ne q]
 rw [e] at S2
 show wpAny _ _ (setField (.ref s.heap.objs.size) 0 .none >>= fun _ => Builtin.Deque.clear (.ref s.heap.objs.size) >>= fun _ => ret .none) _ _ _
 refine wpAny_bind (wpAny_setField g0 rfl (by decide) (wpAny_bind ?_))
 have g1 := (U2 (s.heap.objs.size, dqO) (List.mem_append_right _ (.head _))).1
 unfold Builtin.Deque.clear Builtin.Deque.items
 refine wpAny_bind (wpAny_bind (wpAny_fieldsOf g1 rfl (wpAny_pure ?_)))
 refine wpAny_pure (wpAny_pure ⟨rfl, .ref _, _, rfl, S2, h _ n1⟩)
end
end
end
section
set_option maxHeartbeats 4000000
local macro_rules | `(tactic| walk_at "sh") => `(tactic| first | with_reducible refine GetW.sh_pushback (by assumption) ?_ | with_reducible refine GetW.sh_source (by assumption) ?_ | with_reducible refine GetW.sh_eof (by assumption) ?_ | with_reducible refine GetW.sh_filestack (by assumption) ?_ | with_reducible refine GetW.sh_debug (by assumption) ?_)
noncomputable section
theorem f770 (P) : (Kf P).lookup 770 = some (fnO (metS 29 5) (o "shlex.get_token") .none (.str (o "cpy313.shlex") 1198) (.ref 769)) := by rfl
theorem g770 (P) : codeIn (Kf P) (.ref 769) (o "shlex.get_token") = true := rfl
theorem p809_rt (P) : plainGet (Kf P) 809 (Str.ofString "read_token") = true := by kernel_rfl
theorem i809_rt (P) : findIn (Kf P) (.ref 809) (Str.ofString "read_token") = some (some (.ref 777)) := by kernel_rfl
theorem n777 (P) : isFn (Kf P) (.ref 777) = true := by kernel_rfl
theorem k777 (P) : keepIn (Kf P) (.ref 777) = true := rfl
section
variable {c : Cx} {L : AL} {a : LexA} {Hd H : AH} {pos : Nat} {st : AV} {ln : Int} {tok : W}
theorem MethAt.rt (h : Lex a Hd H pos st ln tok) : MethAt c H (.ref a.y) (Str.ofString "read_token") a.y 777 := ⟨rfl, ⟨_, _, _, h.own.le _ _ h.y, h.dy, rfl, p809_rt _, i809_rt _⟩, n777 _, k777 _⟩
theorem CmpW.eqSN {x : Str} {P : Bool → AH → Prop} (h : P false H) : CmpW c .Eq (.str x) .none L H P := by
 rintro _ _ ⟨t, rfl⟩ rfl R s S'; exact EqNone.eq_str_none ⟨.bool _, H, rfl, S', _, rfl, h⟩
theorem CmpW.eqNN {P : Bool → AH → Prop} (h : P true H) : CmpW c .Eq .none .none L H P := by
 rintro _ _ rfl rfl R s S'; exact EqNone.eq_none_none ⟨.bool _, H, rfl, S', _, rfl, h⟩
noncomputable def tokV (res : W × Bool × LS × W) : AV := if res.2.1 = false ∧ res.1 = [] then .none else .str (S res.1)
theorem c770 {res : W × Bool × LS × W} {s0 : LS} (hroom : 5 ≤ c.d.room) (hb : a.buf.length ≤ 1000000) (hpb : Hd a.pb = some (.raw dqO)) (hfs : Hd a.fs = some (.raw dqO)) (h : Lex a Hd H pos (avS s0) ln []) (hs : ∀ n, s0 ≠ .q n) (hx : Lx s0 [] false (a.buf.drop pos) res) :
  CodeW c (.ref 770) [.ref a.y] [] [] L H (LexP a Hd (tokV res) res.2.2.1 res.2.2.2) := by
 generalize hQ : (LexP a Hd (tokV res) res.2.2.1 res.2.2.2) = Q
 refine CodeW.enterP (ns := [o "self"]) (bas := [.ref a.y]) (f770 _) (g770 _) (by first | exact room_1 hroom tt | omega) (fun vs ws hv hw => ?_) (by rfl) (by rfl) (by rfl) (by rfl) (by rfl) fun d hrm _ Pf hPf => ?_
 ·exact bind1 hv fun _ _ _ => BindsTo.of_eq (by rfl)
 conv in fBody _ => whnf
 repeat walk_at "f"
 refine CB.val ?_
 repeat walk_at "f"
 walk_at "sh"
 refine TrW.deque (h.own.le _ _ hpb) ?_
 refine iteF rfl ?_
 repeat walk_at "f"
 refine EW.meth0 ?_
 repeat walk_at "f"
 refine ⟨_, _, MethAt.rt h, ?_⟩
 refine (CallKW.toCall (CodeW.toKW (c777 (by first | exact room_le hroom hrm tt | exact room_le hroom hr tt | (show 4 ≤ d.room; omega)) hb h hs hx))).mono fun v H2 h2 => ?_
 obtain ⟨rfl, pos2, ln2, Hd1, kH, h2, hd2⟩ := h2
 clear h hx
 have fin : ∀ v : AV, v = tokV res → Q v H2 := fun v e => by rw [← hQ]; exact ⟨e, pos2, ln2, Hd1, kH, h2, hd2⟩
 have et : (if res.2.1 = false ∧ res.1 = [] then AV.none else .str (S res.1)) = tokV res := rfl
 rw [et]
 repeat walk_at "f"
 walk_at "sh"
 repeat walk_at "f"
 refine CmpW.isNotN rfl ?_
 refine iteF rfl ?_
 repeat walk_at "f"
 refine ST.whileIn (fun _ L1 H1 => H1 = H2 ∧ L1 (o "self") = some (.ref a.y) ∧ L1 (o "raw") = some (tokV res)) 0 ⟨rfl, by walk_at "lk", by walk_at "lk"⟩ ?_
 rintro n L1 _ Pk hPk ⟨rfl, l1, l2⟩
 by_cases hn : res.2.1 = false ∧ res.1 = []
 ·have ev : tokV res = .none := if_pos hn
  rw [ev] at l2 fin
  repeat walk_at "f"
  walk_at "sh"
  refine CmpW.eqNN ?_
  refine iteT rfl ?_
  repeat walk_at "f"
  refine CB.val ?_
  repeat walk_at "f"
  walk_at "sh"
  refine TrW.deque (h2.own.le _ _ (kH _ _ hfs)) ?_
  refine iteT rfl ?_
  repeat walk_at "f"
  walk_at "sh"
  repeat walk_at "f"
  exact fin _ rfl
 ·have ev : tokV res = .str (S res.1) := if_neg hn
  rw [ev] at l2 fin
  repeat walk_at "f"
  walk_at "sh"
  refine CmpW.eqSN ?_
  refine iteF rfl ?_
  repeat walk_at "f"
  walk_at "sh"
  repeat walk_at "f"
  refine iteF rfl ?_
  repeat walk_at "f"
  exact fin _ rfl
end
end
end
section
set_option maxHeartbeats 4000000
local macro_rules | `(tactic| walk_at "sh") => `(tactic| first | with_reducible refine GetW.sh_eof (by assumption) ?_)
noncomputable section
theorem f806 (P) : (Kf P).lookup 806 = some (fnO (metS 29 10) (o "shlex.__next__") .none (.str (o "cpy313.shlex") 1198) (.ref 805)) := by rfl
theorem g806 (P) : codeIn (Kf P) (.ref 805) (o "shlex.__next__") = true := rfl
theorem f799 (P) : (Kf P).lookup 799 = some (fnO (metS 29 9) (o "shlex.__iter__") .none (.str (o "cpy313.shlex") 1198) (.ref 798)) := by rfl
theorem g799 (P) : codeIn (Kf P) (.ref 798) (o "shlex.__iter__") = true := rfl
theorem p809_gt (P) : plainGet (Kf P) 809 (Str.ofString "get_token") = true := by kernel_rfl
theorem i809_gt (P) : findIn (Kf P) (.ref 809) (Str.ofString "get_token") = some (some (.ref 770)) := by kernel_rfl
theorem n770 (P) : isFn (Kf P) (.ref 770) = true := by kernel_rfl
theorem k770 (P) : keepIn (Kf P) (.ref 770) = true := rfl
section
variable {c : Cx} {L : AL} {a : LexA} {Hd H : AH} {pos : Nat} {st : AV} {ln : Int} {tok : W}
theorem MethAt.gt (h : Lex a Hd H pos st ln tok) : MethAt c H (.ref a.y) (Str.ofString "get_token") a.y 770 := ⟨rfl, ⟨_, _, _, h.own.le _ _ h.y, h.dy, rfl, p809_gt _, i809_gt _⟩, n770 _, k770 _⟩
theorem c799 {y : Addr} (hroom : 1 ≤ c.d.room) : CodeW c (.ref 799) [.ref y] [] [] L H fun v H' => v = .ref y ∧ H' = H := by
 refine CodeW.enterP (ns := [o "self"]) (bas := [.ref y]) (f799 _) (g799 _) (by first | exact room_1 hroom tt | omega) (fun vs ws hv hw => ?_) (by rfl) (by rfl) (by rfl) (by rfl) (by rfl) fun d hrm _ Pf hPf => ?_
 ·exact bind1 hv fun _ _ _ => BindsTo.of_eq (by rfl)
 conv in fBody _ => whnf
 repeat walk_at "f"
 exact ⟨rfl, rfl⟩
theorem c806 {res : W × Bool × LS × W} {s0 : LS} (hroom : 6 ≤ c.d.room) (hb : a.buf.length ≤ 1000000) (hpb : Hd a.pb = some (.raw dqO)) (hfs : Hd a.fs = some (.raw dqO)) (h : Lex a Hd H pos (avS s0) ln []) (hs : ∀ n, s0 ≠ .q n) (hx : Lx s0 [] false (a.buf.drop pos) res) (hn : ¬(res.2.1 = false ∧ res.1 = [])) :
  CodeW c (.ref 806) [.ref a.y] [] [] L H (LexP a Hd (.str (S res.1)) res.2.2.1 res.2.2.2) := by
 generalize hQ : (LexP a Hd (.str (S res.1)) res.2.2.1 res.2.2.2) = Q
 refine CodeW.enterP (ns := [o "self"]) (bas := [.ref a.y]) (f806 _) (g806 _) (by first | exact room_1 hroom tt | omega) (fun vs ws hv hw => ?_) (by rfl) (by rfl) (by rfl) (by rfl) (by rfl) fun d hrm _ Pf hPf => ?_
 ·exact bind1 hv fun _ _ _ => BindsTo.of_eq (by rfl)
 conv in fBody _ => whnf
 repeat walk_at "f"
 refine EW.meth0 ?_
 repeat walk_at "f"
 refine ⟨_, _, MethAt.gt h, ?_⟩
 refine (CallKW.toCall (CodeW.toKW (c770 (by first | exact room_le hroom hrm tt | exact room_le hroom hr tt | (show 5 ≤ d.room; omega)) hb hpb hfs h hs hx))).mono fun v H2 h2 => ?_
 obtain ⟨rfl, pos2, ln2, Hd1, kH, h2, hd2⟩ := h2
 clear h hx
 have fin : Q (.str (S res.1)) H2 := by rw [← hQ]; exact ⟨rfl, pos2, ln2, Hd1, kH, h2, hd2⟩
 rw [show tokV res = .str (S res.1) from if_neg hn]
 repeat walk_at "f"
 walk_at "sh"
 refine CmpW.eqSN ?_
 refine iteF rfl ?_
 repeat walk_at "f"
 exact fin
end
end
end
section
set_option maxHeartbeats 4000000
noncomputable section
theorem i809_nx (P) : findIn (Kf P) (.ref 809) "__next__" = some (some (.ref 806)) := by kernel_rfl
theorem n806 (P) : isFn (Kf P) (.ref 806) = true := by kernel_rfl
section
variable {c : Cx} {L : AL} {a : LexA} {Hd H : AH} {pos : Nat} {st : AV} {ln : Int} {tok : W} {R : List (Addr × Obj)} {s : Shared}
theorem NxW.own {x dx C f : Addr} {es : List (Str × AV)} {v : AV} {Q : Option AV → AH → Prop} (hx : H x = some (.inst C dx)) (hd : H dx = some (.dict es)) (hs : findIn (KP c) (.ref C) "__next__" = some (some (.ref f))) (hf : isFn (KP c) (.ref f) = true)
  (h : CodeW c (.ref f) [.ref x] [] [] L H fun v H' => Q (some v) H') : NxW c x L H Q := by
 intro R s S
 obtain ⟨ds, n, I, hr⟩ := S.inst hx hd
 obtain ⟨m, F, _⟩ := S.fr
 refine owit_next F S.ok.kin I hs hf ?_
 refine wpAny_mono ((CallKW.toCall (CodeW.toKW h)) [.ref x] (.cons (a := .ref x) rfl .nil) R s S) (fun v s' q => ?_) fun _ _ e => e.elim
 obtain ⟨av, H', hv, S', q⟩ := q
 exact ⟨some av, H', ⟨_, rfl, hv⟩, S', q⟩
end
end
end
section
noncomputable section
noncomputable abbrev Cx.fs (c : Cx) : List Addr := c.d.outer.filterMap (·.frame)
noncomputable def Cx.at (c : Cx) (g : Heap) : Cx := ⟨{ c.d with h₀ := g }, c.ns, c.cl⟩
structure Base (c : Cx) : Prop where
 kin : (Kf c.d.w.params).In c.d.base
 top : Top qv (looseW qv lv) c.d.mean c.d.mg c.d.mb c.d.base
theorem Base.to {c : Cx} (h : Base c) {A : Around} : Base (c.to A) := ⟨h.kin, h.top⟩
noncomputable def RaiseW (c : Cx) (sts : List Stmt) (L : AL) (H : AH) (P : AH → Prop) : Prop := ∀ R s, Sim c L H R s → ∀ E : Value → Shared → Prop,
 (∀ L' H' s' h' e, Sim c L' H' R s' → P H' → Heap.MadeExc s'.heap h' e "StopIteration" [] → E (.ref e) { s' with heap := h' }) → wpAny (model prg c.d.w) c.d.A (execs sts c.d.env) (fun _ _ => False) E s
section
variable {c : Cx} {L : AL} {H : AH} {R : List (Addr × Obj)} {s : Shared} {Q : AV → AH → Prop}
theorem RaiseW.cons {st : Stmt} {sts : List Stmt} {P : AH → Prop} (h : ST c st L H fun f L1 H1 => match f with | .next => RaiseW c sts L1 H1 P | _ => False) : RaiseW c (st :: sts) L H P := fun R s S E k =>
 wpAny_execs_cons (h.run S fun f af L' H' s' hf S' q => by
  cases af with
  | next => cases hf; exact q _ _ S' E k
  | brk => exact q.elim
  | cont => exact q.elim
  | ret a => exact q.elim)
theorem RaiseW.iff {test : Expr} {body orelse sts : List Stmt} {pos : Pos} {P : AH → Prop} (h : CB c test L H fun b H1 => b = true ∧ RaiseW c body L H1 P) : RaiseW c (.If test body orelse pos :: sts) L H P := fun R s S E k =>
 wpAny_execs_cons (wpAny_If (h.run S fun b H' s' S' q => by
  obtain ⟨rfl, q⟩ := q
  rw [if_pos rfl]
  exact wpAny_mono (q _ _ S' E k) (fun _ _ x => x.elim) fun _ _ x => x))
theorem RaiseW.raise {np pos : Pos} {sts : List Stmt} {P : AH → Prop} (hk : c.ns.lookup (Str.ofString "StopIteration") = some .globalImplicit) (hg : nsIn (KP c) mainGlobals (Str.ofString "StopIteration") = some none) (hb : bootBuiltins (Str.ofString "StopIteration") = some (.type "StopIteration")) (h : P H) :
  RaiseW c (.Raise (some (.Name (Str.ofString "StopIteration") np)) none pos :: sts) L H P := fun R s S E k => by
 obtain ⟨m, F, hm⟩ := S.fr
 have T := topRead_of S.ok.top
 have hg' := T.g.keeps F.keep
 have hb' := T.b.keeps F.keep
 refine wpAny_execs_cons (owsi_raiseC S.ok.handled ?_ fun h' e hm => k _ _ _ _ _ S h hm)
 refine Name_function_global S.ok.kind (by unfold Env.kindOf; rw [S.ok.names]; exact hk) ?_ (by decide)
 exact loadGlobal_builtin (by rw [S.ok.globals]; exact hg') (mg_none_of S.ok.kin T.g hg) (by rw [S.ok.blt]; exact hb') ((T.builtins _ (by decide)).trans hb) ⟨rfl, rfl⟩
theorem fs_mem {env : Env} {outer : List Env} {F b : Addr} (hf : env.frame = some F) (h : b ∈ (env :: outer).filterMap (·.frame)) : b = F ∨ b ∈ outer.filterMap (·.frame) := by
 obtain ⟨e, he, q⟩ := List.mem_filterMap.mp h
 rcases List.mem_cons.mp he with rfl | he
 ·rw [hf] at q; exact .inl (Option.some.inj q).symm
 ·exact .inr (List.mem_filterMap.mpr ⟨e, he, q⟩)
theorem turned {A₀ : Around} {base h₀ g B h3 : Heap} {env : Env} {outer : List Env} {F : Addr} {m : Str → Option Value} (K : Below A₀ base outer h₀) (hf : env.frame = some F) (FG : Fr h₀ F g m)
  (hBG : ∀ b o, g.get? b = some o → b ∉ (env :: outer).filterMap (·.frame) → B.get? b = some o) (hB3 : B.StaysIn h3) (hsm : g.UpToSlots h3) :
  ∃ g', KtsTurn (outer.filterMap (·.frame)) h₀ g' ∧ Fr g' F h3 m ∧ Below A₀ base outer g' := by
 obtain ⟨T, St⟩ := kts_turn_at (h := h3) (fs := outer.filterMap (·.frame)) (g := h₀) (fun b hb => let ⟨_, o, ho, _⟩ := K.frames.mem hb; ⟨o, ho⟩)
  (fun b o e nm => hB3 b o (hBG b o (FG.keep b o e) fun hm => by
   rcases fs_mem hf hm with rfl | z
   ·rw [kts_self FG] at e; cases e
   ·exact nm z))
  (fun b o e hm => by
   obtain ⟨_, o', ho', hd⟩ := K.frames.mem hm
   rw [e] at ho'; cases ho'
   exact hsm b o (FG.keep b o e) hd)
 exact ⟨_, T, ⟨hsm.ns FG.ns, St, by rw [T.size]; exact FG.above⟩, K.stack, (fun b o e => T.other b o (K.stays b o e) fun hm => by rw [(K.frames.mem hm).1] at e; cases e),
  K.frames.of_keeps fun b o e _ => let ⟨sl, hs⟩ := T.up e; ⟨_, hs, rfl⟩⟩
theorem NxE.ownStop {x dx C f cda : Addr} {es : List (Str × AV)} {st : Stmt} {qual : Str} {dV pm : Value} {ns : List Str} {bas : List AV} {P : AH → Prop} {Qn : AV → AH → Prop} (hcomp : c.d.comp = false) (hbase : Base c)
  (hx : H x = some (.inst C dx)) (hd : H dx = some (.dict es)) (hs : findIn (KP c) (.ref C) "__next__" = some (some (.ref f))) (hf : isFn (KP c) (.ref f) = true)
  (ho : (KP c).lookup f = some (fnO st qual dV pm (.ref cda))) (hcd : codeIn (KP c) (.ref cda) qual = true) (hroom : 1 ≤ c.d.room)
  (hb : ∃ bv, VRels bas bv ∧ ∀ s : Shared, (KP c).In s.heap → BindsTo s (fnOf (fName st) qual (fArgs st) (fBody st) (fScope st) dV .none .none pm none (.ref cda) .none) ⟨[.ref x], []⟩ (ns.zip bv))
  (hloc : (ns.all fun x => (fScope st).names.lookup x == some .local) = true) (hcell : ((fScope st).names.all fun x => x.2 != .cell) = true)
  (hco : (fScope st).isCoroutine = false) (hgen : (fScope st).isGenerator = false) (hk : (fScope st).kind = .function)
  (k : ∀ d : Dy, d.room + 1 = c.d.room → d.w = c.d.w → RaiseW ⟨d, (fScope st).names, []⟩ (fBody st) (bindA ns bas) H P) :
  NxE c x L H Qn fun R s' => ∃ g' H', KtsTurn c.fs c.d.h₀ g' ∧ Sim (c.at g') L H' R s' ∧ P H' := by
 intro R s S
 obtain ⟨ds, n, I, hr⟩ := S.inst hx hd
 obtain ⟨m, F, hm⟩ := S.fr
 obtain ⟨bv, hbv, hbind⟩ := hb
 obtain ⟨news, N, hin, hout⟩ := S.news
 have he := S.ok.same hcomp
 have hfe : c.d.fenv.frame = some c.d.L := by
  have := S.ok.frame
  have eF : c.d.fenv.locals = c.d.env.locals := by rw [he]
  rw [eF] at this; exact this
 refine owit_next F S.ok.kin I hs hf (wpAny_call ?_)
 refine codeAny_mono (R := fun r s' => match r with | .ok _ => False | .error e => OwitStop (model prg c.d.w) c.d.A (fun r s' => (r = none ∧ ∃ g' H', KtsTurn c.fs c.d.h₀ g' ∧ Sim (c.at g') L H' R s' ∧ P H') ∨ NQ1 c L R Qn r s') nE e s') ?_ fun r s' q => ?_
 ·refine code_def S.ok.below F S.ok.kin N S.ok.top S.ok.frames hfe S.ok.fkind ho hcd (room_lt S.ok.room hroom) (hbind s S.kin) (fun y hy => ?_) (fun g L' h₁ FG F' N' B' KG TG => ?_) hco hgen hk (fun x hx => ?_)
  ·obtain ⟨x, v⟩ := y
   have := List.all_eq_true.mp hloc x (List.of_mem_zip hy).1
   simpa using this
  ·let d' : Dy := { w := c.d.w, A := c.d.A.deeper (envOf qual (fScope st) L' f (.ref cda)), A₀ := c.d.A, base := c.d.base, h₀ := g, outer := c.d.fenv :: c.d.outer, env := envOf qual (fScope st) L' f (.ref cda), mg := c.d.mg, mb := c.d.mb, mean := c.d.mean, os := c.d.os, room := c.d.room - 1, comp := false, fenv := envOf qual (fScope st) L' f (.ref cda), fm := fun _ => none }
   let c' : Cx := ⟨d', (fScope st).names, []⟩
   have ok' : c'.d.Ok c'.ns c'.cl := ⟨B', KG, TG, Around.frames_deeper S.ok.frames, S.ok.handled, rfl, hk, fun _ => rfl, (fun e => nomatch e), hk, rfl, rfl, rfl, rfl, room_deep S.ok.room hroom, units_deep S.ok.units hroom⟩
   have S' : Sim c' (bindA ns bas) H R { s with heap := h₁, toks := s.toks + (ns.zip bv).length } := by
    refine ⟨ok', ⟨_, F', fun x av e => ?_⟩, fun p hp => N' p (List.mem_append_right _ hp), fun a ao e => ?_, S.fin, S.sep, S.gens, S.os, (fun e => nomatch e)⟩
    ·rcases bindA_rel (ns := ns) hbv x with ⟨e1, _⟩ | ⟨a, v, e1, e2, r⟩
     ·rw [e1] at e; cases e
     ·rw [e1] at e; cases e; exact ⟨v, e2, r⟩
    ·obtain ⟨o, ho, hr⟩ := hin a ao e
     have := N' _ (List.mem_append_left _ ho)
     exact ⟨o, this.1, this.2.1, this.2.2, hr⟩
   refine wpAny_mono (k d' (Nat.sub_add_cancel hroom) rfl R _ S' _ fun L2 H2 s2 h2 e S2 hP hm2 => ?_) (fun _ _ x => x.elim) fun _ _ x => x
   obtain ⟨m2, F2, _⟩ := S2.fr
   obtain ⟨news2, N2, hin2, _⟩ := S2.news
   refine leave_raiseS (K := B') hm2.of F2 N2 (fun h3 t RS _ hsm => ?_) hk
   obtain ⟨⟨B, hB, hBG, hl, hfl, hnew⟩, htup⟩ := RS
   obtain ⟨g', T, F3, K3⟩ := turned S.ok.below hfe FG hBG hfl.1 hsm
   obtain ⟨ob, hob, hobc⟩ := hfl.there
   have hT : ({ s2 with heap := h3 } : Shared).TypeIs (.ref e) "StopIteration" := ⟨ob, hob, hobc⟩
   have hBL : B.get? c.d.L = none := by
    obtain ⟨_, ⟨L', _, hf, hn', _⟩, _⟩ := hfl.2.2.1
    rw [hfe] at hf
    cases hf
    exact hn'
   have N3 : News g' c.d.L h3 (news2 ++ R) := fun q hq => ⟨hfl.1 _ _ (hl q hq).1, (fun z => by have := (hl q hq).1; rw [z, hBL] at this; cases this), T.none_ _ (kts_none FG.keep (hl q hq).2.1)⟩
   refine wpAny_isInstance hT isSubtype_stop (by
    rw [if_pos rfl]
    refine .inl ⟨rfl, g', H2, T, ⟨⟨K3, hbase.kin.keeps K3.stays, hbase.top.keeps K3.stays, S.ok.frames, S.ok.handled, S.ok.frame, S.ok.fkind, S.ok.same, (fun e => by rw [show c.d.comp = true from e] at hcomp; cases hcomp), S.ok.kind, S.ok.names, S.ok.cells, S.ok.globals, S.ok.blt, S.ok.room, S.ok.units⟩,
     ⟨m, F3, hm⟩, fun p hp => N3 p (List.mem_append_right _ hp), fun a ao q => ?_, S2.fin, S2.sep, S2.gens, S2.os, (fun e => by rw [show c.d.comp = true from e] at hcomp; cases hcomp)⟩, hP⟩
    obtain ⟨o, ho, hr⟩ := hin2 a ao q
    have := N3 _ (List.mem_append_left _ ho)
    exact ⟨o, this.1, this.2.1, this.2.2, hr⟩)
  ·have := List.all_eq_true.mp hcell x hx
   simpa using this
 ·cases r with
  | error e => exact q
  | ok f => exact q.elim
end
end
end
section
noncomputable section
inductive TXQ (c : Cx) (L : AL) (R : List (Addr × Obj)) (Q : AV → AH → Prop) (v : Value) (s' : Shared) : Prop
 | mk' (av : AV) (H' : AH) (g' : Heap) (t : KtsTurn c.fs c.d.h₀ g') (r : VRel av v) (S : Sim (c.at g') L H' R s') (q : Q av H')
inductive XXQ (c : Cx) (R : List (Addr × Obj)) (Q : AF → AH → Prop) (f : Flow) (s' : Shared) : Prop
 | mk' (af : AF) (L' : AL) (H' : AH) (g' : Heap) (t : KtsTurn c.fs c.d.h₀ g') (r : FRel af f) (S : Sim (c.at g') L' H' R s') (q : Q af H')
noncomputable def TX (c : Cx) (t : Sem Value) (L : AL) (H : AH) (Q : AV → AH → Prop) : Prop :=
 ∀ R s, Sim c L H R s → wpAny (model prg c.d.w) c.d.A t (TXQ c L R Q) nE s
noncomputable def XX (c : Cx) (t : Sem Flow) (L : AL) (H : AH) (Q : AF → AH → Prop) : Prop :=
 ∀ R s, Sim c L H R s → wpAny (model prg c.d.w) c.d.A t (XXQ c R Q) nE s
noncomputable abbrev SX (c : Cx) (sts : List Stmt) (L : AL) (H : AH) (Q : AF → AH → Prop) : Prop := XX c (execs sts c.d.env) L H Q
section
variable {c : Cx} {L : AL} {H : AH} {R : List (Addr × Obj)} {s : Shared} {Q : AV → AH → Prop}
theorem Sim.offAt {A : Around} {g : Heap} {s' : Shared} {L' : AL} {H' : AH} {R' : List (Addr × Obj)} (S : Sim c L H R s) (S' : Sim ((c.to A).at g) L' H' R' s') : Sim (c.at g) L' H' R' s' :=
 ⟨⟨S'.ok.below, S'.ok.kin, S'.ok.top, S.ok.frames, S.ok.handled, S.ok.frame, S.ok.fkind, S.ok.same, S'.ok.hF, S.ok.kind, S.ok.names, S.ok.cells, S.ok.globals, S.ok.blt, S.ok.room, S.ok.units⟩,
  S'.fr, S'.nw, S'.hp, S'.fin, S'.sep, S'.gens, S'.os, fun e => let f := S'.frm e; ⟨f.ns, f.nl, f.nh, f.nr⟩⟩
theorem listOwn {it : Addr} {T : Value} (hroom : 2 ≤ c.d.room) (hit : H it ≠ none) (I : Nat → List AV → AH → Prop) (Fin : List AV → AH → Prop)
  (ht : ∀ A, Near c.d.A A → ItTy (c.to A) it T H L)
  (turn : ∀ A, Near c.d.A A → ∀ n ys H, I n ys H → ys.length ≤ 900000 ∧ NxE (c.to A) it L H (fun a H' => ∃ m, m < n ∧ I m (ys ++ [a]) H') fun R s' => ∃ g' H', KtsTurn (c.to A).fs (c.to A).d.h₀ g' ∧ Sim ((c.to A).at g') L H' R s' ∧ Fin ys H')
  {n : Nat} (hI : I n [] H) (fin : ∀ ys H' D, Fin ys H' → H' D = none → Q (.ref D) (hset H' D (.list ys))) : TX c (call (.type "list") [.ref it]) L H Q := by
 intro R s S
 refine list_codes S hroom hit I (fun ys R s' => ∃ g' H', KtsTurn c.fs c.d.h₀ g' ∧ Sim (c.at g') L H' R s' ∧ Fin ys H') ht
  (fun A nr n ys H h => ⟨(turn A nr n ys H h).1, fun R1 s1 S1 => wpAny_mono ((turn A nr n ys H h).2 R1 s1 S1) (fun r s' q => q.imp (fun z => by obtain ⟨e, g', H', T, S', q⟩ := z; exact ⟨e, g', H', T, S.offAt S', q⟩) id) fun _ _ x => x⟩) hI fun D s' ys vs k hR hv z => ?_
 obtain ⟨g', H', T, S', hf⟩ := z
 have hn : H' D = none := S'.sep _ (.head _)
 exact ⟨.ref _, _, g', T, rfl, S'.ofR (ao := .list ys) (.head _) ⟨vs, k, rfl, hv⟩ fun p hp => ⟨.tail _ hp, hR p hp⟩, fin ys H' _ hf hn⟩
theorem SX.cons {st : Stmt} {sts : List Stmt} {Q : AF → AH → Prop} (h : ST c st L H fun f L1 H1 => match f with | .next => SX c sts L1 H1 Q | _ => False) : SX c (st :: sts) L H Q := fun R s S =>
 wpAny_execs_cons (h.run S fun f af L' H' s' hf S' q => by
  cases af with
  | next => cases hf; exact q _ _ S'
  | brk => exact q.elim
  | cont => exact q.elim
  | ret a => exact q.elim)
theorem SX.ret {e : Expr} {pos : Pos} {sts : List Stmt} {Q : AF → AH → Prop} (h : TX c (eval e c.d.env) L H fun a H1 => Q (.ret a) H1) : SX c (.Return (some e) pos :: sts) L H Q := fun R s S =>
 wpAny_execs_cons (wpAny_Return_some (wpAny_mono (h R s S) (fun v s' z => by obtain ⟨av, H', g', T, hv, S', q⟩ := z; exact ⟨.ret av, L, H', g', T, ⟨v, rfl, hv⟩, S', q⟩) fun _ _ x => x))
theorem TX.callT1 {x : Str} {np pos : Pos} {e : Expr}
  (h : EW c (.Name x np) L H fun f H1 => ∃ n, f = .typ n ∧ ES c [e] pos L H1 fun as H2 => ∀ vs, VRels as vs → TX c (call (.type n) vs) L H2 Q)
  (h2 : ((backTo pos (starEach [e] c.d.env)).any fun x => x.1) = false := by with_unfolding_all rfl)
  (h3 : backTo pos (starEach [e] c.d.env) = (false, (backTo pos [(false, eval e c.d.env)]).head!.2) :: backTo pos (starEach [] c.d.env) := by with_unfolding_all rfl) : TX c (eval (.Call (.Name x np) [e] [] pos) c.d.env) L H Q := fun R s S =>
 wpAny_Call_ofName (h.run S fun f af H1 s1 hf S1 zz => by
  obtain ⟨id, e, q⟩ := zz
  subst e; cases hf
  refine PyProof.Rows.callWith_type h2 ?_
  rw [h3]
  refine evalArgs_plain ?_
  rw [← h3]
  exact q.run S1 fun vs as H2 s2 hv S2 q2 => q2 vs hv R _ S2)
theorem CodeW.enterX {st : Stmt} {fa cda : Addr} {qual : Str} {dV pm : Value} {as kas : List AV} {kn ns : List Str} {bas : List AV} (hout : c.d.outer = []) (hcomp : c.d.comp = false) (hbase : Base c)
  (ho : (KP c).lookup fa = some (fnO st qual dV pm (.ref cda))) (hcd : codeIn (KP c) (.ref cda) qual = true) (hroom : 1 ≤ c.d.room)
  (hb : ∀ vs ws, VRels as vs → VRels kas ws → ∃ bv, VRels bas bv ∧ ∀ s : Shared, (KP c).In s.heap → BindsTo s (fnOf (fName st) qual (fArgs st) (fBody st) (fScope st) dV .none .none pm none (.ref cda) .none) ⟨vs, kn.zip ws⟩ (ns.zip bv))
  (hloc : (ns.all fun x => (fScope st).names.lookup x == some .local) = true) (hcell : ((fScope st).names.all fun x => x.2 != .cell) = true)
  (hco : (fScope st).isCoroutine = false) (hgen : (fScope st).isGenerator = false) (hk : (fScope st).kind = .function)
  (k : ∀ d : Dy, d.room + 1 = c.d.room → d.w = c.d.w → d.comp = false → Base ⟨d, (fScope st).names, []⟩ → SX ⟨d, (fScope st).names, []⟩ (fBody st) (bindA ns bas) H fun f H' => Q f.val H') : CodeW c (.ref fa) as kn kas L H Q := by
 intro vs ws hv hw R s S
 obtain ⟨bv, hbv, hbind⟩ := hb vs ws hv hw
 obtain ⟨m, news, Rx, F, N, hin, hsep, back⟩ := S.ground
 obtain ⟨FG, BG, st', _⟩ := groundX (R := fun _ _ => True) S.ok.below F N S.ok.frames S.ok.frame S.ok.fkind
 generalize hg : hideAll s.heap (news ++ Rx |>.map (·.1)) = g at FG BG st'
 have X := S.ok.kin.keeps F.keep
 refine codeAny_call_def (fd := fnOf (fName st) qual (fArgs st) (fBody st) (fScope st) dV .none .none pm none (.ref cda) .none) (body := fBody st) (binds := ns.zip bv) (room_lt S.ok.room hroom) (X _ _ ho) rfl (S.ok.top.nolimit.keeps F.keep) (codeRec_of X hcd) rfl (hbind s S.kin) (fun x hx => ?_) (fun y hy => ?_) (fun h₁ hns hk₁ => ?_) hco hgen hk
 ·have := List.all_eq_true.mp hcell x hx
  simpa using this
 ·obtain ⟨x, v⟩ := y
  have := List.all_eq_true.mp hloc x (List.of_mem_zip hy).1
  simpa using this
 ·have F' : Fr g s.heap.objs.size h₁ (fun x => (ns.zip bv).reverse.lookup x) := ⟨hns, fun b o e => hk₁ b o (of_hideAll _ (hg ▸ e)), by rw [← hg]; exact Nat.le_of_eq (hideAll_size _ _)⟩
  have N' : News g s.heap.objs.size h₁ (news ++ Rx) := fun p hp => ⟨hk₁ _ _ (N p hp).1, Nat.ne_of_lt (Heap.lt_size (N p hp).1), by rw [← hg]; exact hideAll_none _ (List.mem_map_of_mem hp)⟩
  let d' : Dy := { w := c.d.w, A := c.d.A.deeper (envOf qual (fScope st) s.heap.objs.size fa (.ref cda)), A₀ := c.d.A, base := c.d.base, h₀ := g, outer := c.d.fenv :: c.d.outer, env := envOf qual (fScope st) s.heap.objs.size fa (.ref cda), mg := c.d.mg, mb := c.d.mb, mean := c.d.mean, os := c.d.os, room := c.d.room - 1, comp := false, fenv := envOf qual (fScope st) s.heap.objs.size fa (.ref cda), fm := fun _ => none }
  let c' : Cx := ⟨d', (fScope st).names, []⟩
  have ok' : c'.d.Ok c'.ns c'.cl := ⟨BG, S.ok.kin.keeps st', S.ok.top.keeps st', Around.frames_deeper S.ok.frames, S.ok.handled, rfl, hk, fun _ => rfl, (fun e => nomatch e), hk, rfl, rfl, rfl, rfl, room_deep S.ok.room hroom, units_deep S.ok.units hroom⟩
  have S' : Sim c' (bindA ns bas) H Rx { s with heap := h₁, toks := s.toks + (ns.zip bv).length } := by
   refine ⟨ok', ⟨_, F', fun x av e => ?_⟩, fun p hp => N' p (List.mem_append_right _ hp), fun a ao e => ?_, S.fin, hsep, S.gens, S.os, (fun e => nomatch e)⟩
   ·rcases bindA_rel (ns := ns) hbv x with ⟨e1, _⟩ | ⟨a, v, e1, e2, r⟩
    ·rw [e1] at e; cases e
    ·rw [e1] at e; cases e; exact ⟨v, e2, r⟩
   ·obtain ⟨o, ho, hr⟩ := hin a ao e
    have := N' _ (List.mem_append_left _ ho)
    exact ⟨o, this.1, this.2.1, this.2.2, hr⟩
  refine wpAny_mono (k d' (Nat.sub_add_cancel hroom) rfl rfl ⟨hbase.kin, hbase.top⟩ Rx _ S') (fun f s' q => ?_) fun _ _ x => x.elim
  obtain ⟨af, L2, H2, g', T, hf, S2, q⟩ := q
  have hv : VRel af.val (match (motive := Flow → Value) f with | .ret v => v | _ => .none) := by
   cases af with
   | next => cases hf; rfl
   | brk => cases hf; rfl
   | cont => cases hf; rfl
   | ret a => obtain ⟨v, rfl, hv⟩ := hf; exact hv
  obtain ⟨m2, F2, _⟩ := S2.fr
  obtain ⟨news2, N2, hin2, _⟩ := S2.news
  have up : g.UpToSlots s'.heap := fun b o e _ => let ⟨sl, hs⟩ := T.up e; ⟨sl, F2.keep _ _ hs⟩
  have hfs : ∀ b, b ∈ c'.fs → b = c.d.F := fun b hb => by
   have := fs_mem S.ok.frame (show b ∈ (c.d.fenv :: c.d.outer).filterMap (·.frame) from hb)
   rw [hout] at this
   exact this.elim id fun z => nomatch z
  have F3 : Fr c.d.h₀ c.d.F s'.heap m := ⟨up.ns FG.ns, fun b o e => F2.keep _ _ (T.other b o (FG.keep _ _ e) fun hb => by
   rw [hfs b hb, kts_self FG] at e; cases e), FG.above⟩
  have N3 : News c.d.h₀ c.d.F s'.heap (news2 ++ Rx) := fun p hp => by
   obtain ⟨n1, n2, n3⟩ := N2 p hp
   have hnone : g.get? p.1 = none := by
    cases z : g.get? p.1 with
    | none => rfl
    | some o => obtain ⟨sl, hs⟩ := T.up z; rw [show (g'.get? p.1) = none from n3] at hs; cases hs
   refine ⟨n1, fun z => ?_, kts_none FG.keep hnone⟩
   obtain ⟨o, _, _, ho, _⟩ := FG.ns
   rw [z, ho] at hnone; cases hnone
  exact ⟨_, H2, hv, back s' H2 news2 F3 N3 hin2 S2.fin S2.sep S2.gens (S2.os.trans S.os.symm), q⟩
end
end
end
section
set_option maxHeartbeats 4000000
noncomputable section
theorem io_made (P) (p : Program) : peek (Kf P) ⟨p, P⟩ (Bind.madeBy (.ref 674)) = some none := by kernel_rfl
theorem io_base (P) (p : Program) : peek (Kf P) ⟨p, P⟩ (Bind.staticBase (.ref 674)) = some (.type "object") := by kernel_rfl
theorem obj_made (P) (p : Program) : peek (Kf P) ⟨p, P⟩ (Bind.madeBy (.type "object")) = some (some "object.__new__") := by kernel_rfl
theorem io_ty (P) : typeIn (Kf P) (.ref 674) = some (.type "type") := by kernel_rfl
theorem io_rd (P) : readsIn (Kf P) 674 (.type "type") = true := by kernel_rfl
theorem io_fc (P) : findCls (Kf P) (.ref 674) (.type "type") (Str.ofString "__new__") = some (.get (.builtin "staticmethod.__get__") (.ref 171) .none (.ref 674)) := by kernel_rfl
theorem io_sm (P) : recIn (Kf P) 171 "staticmethod" = some [.ref 167] := by kernel_rfl
theorem io_init (P) : findIn (Kf P) (.ref 674) "__init__" = some (some (.ref 444)) := by kernel_rfl
theorem io_call (P) : specialIn (Kf P) (.ref 674) "__call__" = some (some (.builtin "type.__call__")) := by kernel_rfl
theorem io_inst (P) : instIn (Kf P) (.ref 674) (.type "type") = some true := by kernel_rfl
theorem io_self (P) : mroIn (Kf P) 674 (.ref 674) = some true := by kernel_rfl
theorem io_top (P) : mroIn (Kf P) 674 (.type "object") = some true := by kernel_rfl
theorem io_fn (P) : typeIn (Kf P) (.ref 444) = some (.type "function") := by kernel_rfl
theorem obj_fc (P) : findCls (Kf P) (.type "object") (.type "type") (Str.ofString "__new__") = some (.val (.builtin "object.__new__")) := by kernel_rfl
theorem obj_gm (P) (p : Program) : peek (Kf P) ⟨p, P⟩ (specialOf (.type "object") "__getattribute__") = some (some (.builtin "type.__getattribute__")) := by kernel_rfl
theorem f167 (P) : (Kf P).lookup 167 = some (fnO (metS 16 1) (o "IOBase.__new__") .none (.str (o "io") 483) (.ref 166)) := by rfl
theorem g167 (P) : codeIn (Kf P) (.ref 166) (o "IOBase.__new__") = true := rfl
section
variable {c : Cx} {L : AL} {H : AH} {R : List (Addr × Obj)} {s : Shared} {Q : AV → AH → Prop}
theorem io_obj (P) : ∃ oc od cd sl, (Kf P).lookup 674 = some ⟨oc, od, .cls cd, sl⟩ ∧ cd.abstract = false ∧ cd.hasDel = false ∧ cd.mro.isEmpty = false ∧ cd.mro = [.ref 674, .ref 197, .ref 170, .type "object"] := ⟨_, _, _, _, rfl, rfl, rfl, rfl, rfl⟩
theorem obj_newN {w : World} {A : Around} {R : Result → Shared → Prop} {h : Heap} {g d t os} (X : (Kf w.params).In h)
  (hq : R (.ok (.ret (.ref (h.objs.size + 1)))) ⟨(h.push emptyDict).push (instObj 674 h.objs.size), g, d, t, os⟩) :
  codeAny (model prg w) A (.call (.builtin "object.__new__") ⟨[.ref 674], []⟩) R ⟨h, g, d, t, os⟩ := by
 obtain ⟨oc, od, cd, sl, hK, e1, e2, e4, _⟩ := io_obj w.params
 have hC := X _ _ hK
 have made : Looks (model prg w) h (Bind.madeBy (.ref 674)) none := Looks.of_peek X (io_made _ _)
 have base : Looks (model prg w) h (Bind.staticBase (.ref 674)) (.type "object") := Looks.of_peek X (io_base _ _)
 have omade : Looks (model prg w) h (Bind.madeBy (.type "object")) (some "object.__new__") := Looks.of_peek X (obj_made _ _)
 have self : Looks (model prg w) h (isSubtype (.ref 674) (.ref 674)) true := looks_mroIn X (io_self _)
 have top : Looks (model prg w) h (isSubtype (.ref 674) (.type "object")) true := looks_mroIn X (io_top _)
 have typ : Looks (model prg w) h (isInstance (.ref 674) (.type "type")) true := looks_instIn X (io_inst _)
 have F := PySem.F.objNew
 refine codeAny_call_builtin_code (Code.quiet_builtin _ F.quiet) ?_
 simp only [checkBuiltinCall, F.kind, F.split, F.row]
 have here : Looks (model prg w) h (Bind.madeHere "object.__new__" (.ref 674)) () := base.andThen (omade.andThen (Looks.of_pure (by simp only [Option.map_some, bne_self_eq_false, Bool.false_eq_true, if_false])))
 have args : Bind.checkArgs "object.__new__" ⟨.hand, "object.__new__", "__new__", .cls, []⟩ ⟨[.ref 674], []⟩ = pure () := by kernel_rfl
 rw [args]
 repeat (first | simp only [bne_self_eq_false, Bool.false_eq_true, if_false] | lk)
 refine codeAny_builtin F.entry ?_
 unfold Builtin.«object.__new__»
 have fin : ∀ A', wpAny (model prg w) A' (do
   let d ← if typeHasDict (.ref 674) then some <$> alloc { cls := .type "dict", data := .dict #[] } else pure none
   ret (← newObj (.ref 674) .plain d)) (fun fin s' => match fin with | .done f => R (.ok f) s' | .again c' => c'.quiet = true ∧ codeAny (model prg w) A c' R s') (fun e s' => R (.error e) s') ⟨h, g, d, t, os⟩ := by
  intro A'
  show wpAny _ _ ((alloc emptyDict >>= fun x => pure (some x)) >>= _) _ _ _
  refine wpAny_bind (wpAny_bind (wpAny_alloc (wpAny_pure (wpAny_bind ?_))))
  show wpAny _ _ (newObjAsIs _ _ _) _ _ _
  unfold newObjAsIs classHasDel
  refine wpAny_bind (wpAny_alloc (wpAny_bind (wpAny_bind (wpAny_load (Heap.get?_push_of_some _ (Heap.get?_push_of_some _ hC)) (wpAny_pure ?_)))))
  rw [e2]
  refine wpAny_pure (wpAny_pure ?_)
  show R _ _
  rw [Heap.size_push]
  exact hq
 repeat (first | simp only [e1, Bool.false_eq_true, if_false] | exact fin _ | lk)
theorem CallW.objNew (h : ∀ x dx, H x = none → H dx = none → dx ≠ x → Q (.ref x) (hset (hset H dx (.dict [])) x (.inst 674 dx))) : CallW c (.builtin "object.__new__") [.ref 674] L H Q := by
 rintro _ (_ | ⟨rfl, _ | _⟩) R s S
 refine wpAny_call ?_
 obtain ⟨n1, S1⟩ := S.push (ao := .dict []) (o := emptyDict) ⟨[], 0, rfl, .nil⟩
 obtain ⟨n2, S2⟩ := S1.push (ao := .inst 674 s.heap.objs.size) (o := instObj 674 s.heap.objs.size) rfl
 have e : (s.heap.push emptyDict).objs.size = s.heap.objs.size + 1 := Heap.size_push _ _
 dsimp only at n2 S2
 rw [e] at n2 S2
 obtain ⟨hp, g, d, t, os⟩ := s
 exact obj_newN S.kin ⟨.ref _, _, rfl, S2, h _ _ (hset_none n2) n1 (Nat.ne_of_lt (Nat.lt_succ_self _))⟩
theorem obj_get {w : World} {A : Around} {E : Value → Shared → Prop} {expr : Bool} {Q : Value → Shared → Prop} (X : (Kf w.params).In s.heap) (h : Q (.builtin "object.__new__") { s with toks := s.toks + 1 }) :
  wpAny (model prg w) A (getAttr (.type "object") (Str.ofString "__new__") expr) Q E s := by
 have hs : Manifest.isStub "object" = false := by decide +kernel
 have hstub : opaqueClassAbove (.type "object") = pure none := by unfold opaqueClassAbove; dsimp only; rw [hs]; rfl
 have L0 : Looks (model prg w) s.heap (typeOf (.type "object")) (.type "type") := Looks.of_pure (kitMeta_of (by decide +kernel))
 have LO : Looks (model prg w) s.heap (opaqueClassAbove (.type "object")) none := Looks.of_pure hstub
 have hg : findIn (Kf w.params) (.type "type") "__getattribute__" = some (some (.builtin "type.__getattribute__")) := type_tga
 refine cls_open X LO L0 hg (looks_hook X (r := none) (by rfl)) (by show subIn (Kf w.params) _ _ = _; rfl) (obj_fc _) ?_
 exact wpAny_pure (handed_on rfl h)
theorem EW.objNew {np apos pos : Pos} {e : Expr} (h : ES c [e] pos L H fun as H2 => CallW c (.builtin "object.__new__") as L H2 Q)
  (hn : EW c (.Name (Str.ofString "object") np) L H fun f H1 => f = .typ "object" ∧ H1 = H)
  (h1 : attributeBase (.Name (Str.ofString "object") np) (Str.ofString "__new__") c.d.env (eval (.Name (Str.ofString "object") np) c.d.env) = eval (.Name (Str.ofString "object") np) c.d.env := by with_unfolding_all rfl)
  (h2 : methodCallForm ([e].length + 0) (backTo pos (starEach [e] c.d.env)) (backToKw pos (keywordEach [] c.d.env)) = true := by with_unfolding_all rfl)
  (h3 : (apos.endLine == pos.line) = true := by with_unfolding_all rfl)
  (h4 : ((backTo pos (starEach [e] c.d.env)).any fun x => x.1) = false := by with_unfolding_all rfl)
  (h5 : backTo pos (starEach [e] c.d.env) = (false, (backTo pos [(false, eval e c.d.env)]).head!.2) :: backTo pos (starEach [] c.d.env) := by with_unfolding_all rfl) :
  EW c (.Call (.Attribute (.Name (Str.ofString "object") np) (Str.ofString "__new__") apos) [e] [] pos) L H Q := fun R s S => by
 rw [arm_eval_Call, h1]
 refine wpAny_bind (hn.run S fun v a H1 s1 hv S1 hx0 => ?_)
 obtain ⟨e1, e2⟩ := hx0
 subst e1 e2
 cases hv
 refine wpAny_bind (wpAny_standAt ?_)
 have hpos : methodCallPos true (.Name (Str.ofString "object") np) c.d.env apos pos = pure pos := by unfold methodCallPos; simp [h3]
 show wpAny _ _ (holding _ (calleeOf (methodCallForm ([e].length + 0) (backTo pos (starEach [e] c.d.env)) (backToKw pos (keywordEach [] c.d.env))) (.Name (Str.ofString "object") np) c.d.env (.type "object") (Str.ofString "__new__")) >>= fun y => methodCallPos (methodCallForm ([e].length + 0) (backTo pos (starEach [e] c.d.env)) (backToKw pos (keywordEach [] c.d.env))) (.Name (Str.ofString "object") np) c.d.env apos pos >>= fun cp => callWith cp y.1 y.2 (backTo pos (starEach [e] c.d.env)) (backToKw pos (keywordEach [] c.d.env))) _ _ _
 rw [h2]
 refine wpAny_bind (wpAny_holding ?_)
 show wpAny _ _ (getMethod (.type "object") (Str.ofString "__new__") _) _ _ _
 unfold getMethod
 have L1 : Looks (model prg c.d.w) s1.heap (specialOf (.type "object") "__getattribute__") (some (.builtin "type.__getattribute__")) := Looks.of_peek S1.kin (obj_gm _ _)
 refine wpAny_bind (L1.here ?_)
 have hc : (Manifest.canonical "type.__getattribute__" != "object.__getattribute__") = true := by decide +kernel
 dsimp only
 rw [if_pos hc]
 refine wpAny_bind (obj_get S1.kin (wpAny_pure ?_))
 refine wpAny_bind (wpAny_of_eq hpos ?_)
 refine callWith_builtin h4 ?_
 rw [h5]
 refine evalArgs_plain ?_
 rw [← h5]
 exact h.run (S1.toks) fun vs as H2 s2 hv S2 q2 => q2 vs hv R _ S2
theorem b167 {d : Dy} : SS ⟨d, (fScope (metS 16 1)).names, []⟩ (fBody (metS 16 1)) (bindA [o "cls"] [.ref 674]) H fun f _ H1 => ∃ y dy, f.val = .ref y ∧ H y = none ∧ H dy = none ∧ dy ≠ y ∧ H1 = hset (hset H dy (.dict [])) y (.inst 674 dy) := by
 generalize hQ : (fun (f : AF) (_ : AL) (H1 : AH) => ∃ y dy, f.val = .ref y ∧ H y = none ∧ H dy = none ∧ dy ≠ y ∧ H1 = hset (hset H dy (.dict [])) y (.inst 674 dy)) = Q
 have fin : ∀ y dy, H y = none → H dy = none → dy ≠ y → Q (.ret (.ref y)) (bindA [o "cls"] [.ref 674]) (hset (hset H dy (.dict [])) y (.inst 674 dy)) := fun y dy h1 h2 h3 => by rw [← hQ]; exact ⟨y, dy, rfl, h1, h2, h3, rfl⟩
 conv in fBody _ => whnf
 repeat walk_at "f"
 refine CmpW.isNotRef (a := 674) (b := 427) (by decide) rfl rfl (by decide) ?_
 refine iteT rfl ?_
 repeat walk_at "f"
 refine CmpW.isNotSelf ?_
 refine iteF rfl ?_
 repeat walk_at "f"
 refine EW.objNew ?_ ?_
 ·repeat walk_at "f"
  exact CallW.objNew fun y dy h1 h2 h3 => fin y dy h1 h2 h3
 ·repeat walk_at "f"
  exact ⟨rfl, rfl⟩
theorem c167 {x : AV} (hroom : 2 ≤ c.d.room) : CodeW c (.ref 167) [.ref 674, x] [] [] L H fun v H1 => ∃ y dy, v = .ref y ∧ H y = none ∧ H dy = none ∧ dy ≠ y ∧ H1 = hset (hset H dy (.dict [])) y (.inst 674 dy) := by
 rintro _ _ (_ | ⟨rfl, _ | @⟨_, xv, _, _, hxv, _ | _⟩⟩) (_ | _) R s S
 obtain ⟨m, news, Rx, F, N, hin, hsep, back⟩ := S.ground
 have key := @kpc_both prg c.d.w c.d.A c.d.A₀ s (KP c) c.d.F c.d.h₀ c.d.base m c.d.mg c.d.mb (news ++ Rx) qv (looseW qv lv) c.d.mean c.d.fenv c.d.outer (RetP c L R fun v H1 => ∃ y dy, v = .ref y ∧ H y = none ∧ H dy = none ∧ dy ≠ y ∧ H1 = hset (hset H dy (.dict [])) y (.inst 674 dy))
  (fName (metS 16 1)) (o "IOBase.__new__") (fArgs (metS 16 1)) (fBody (metS 16 1)) (fScope (metS 16 1)) [] .none .none .none (.str (o "io") 483) (.ref 166) .none (.type "function") none none #[] 167 ⟨[.ref 674, xv], []⟩ [xv] (o "kwargs") (o "args") [] [(o "cls", .ref 674)] []
 refine key (g₁ := ?g1) (g₂ := ?g2) S.ok.below F S.ok.kin N S.ok.top S.ok.frames S.ok.frame S.ok.fkind (f167 _) (g167 _) (by have := S.ok.room; omega) (by rfl) (by rfl) (by rfl) (by rfl) (by rfl) .nil ?q1 ?q2 ?q3 ?q4 (fun C D y hy => ?q5) (fun C D od g L' h₁ tk hlt1 hlt2 _ _ _ FG F' N' B' KG TG => ?q6) (by rfl) (by rfl) (by rfl) (by decide)
 case q1 => rfl
 case q2 => rfl
 case q3 => intro D; rfl
 case q4 => intro C D; rfl
 case q5 =>
  simp only [List.cons_append, List.nil_append, List.mem_cons, List.not_mem_nil, or_false] at hy
  rcases hy with rfl | rfl | rfl <;> rfl
 case q6 =>
  let d' : Dy := { w := c.d.w, A := c.d.A.deeper (envOf (o "IOBase.__new__") (fScope (metS 16 1)) L' 167 (.ref 166)), A₀ := c.d.A, base := c.d.base, h₀ := g, outer := c.d.fenv :: c.d.outer, env := envOf (o "IOBase.__new__") (fScope (metS 16 1)) L' 167 (.ref 166), mg := c.d.mg, mb := c.d.mb, mean := c.d.mean, os := c.d.os, room := c.d.room - 1, comp := false, fenv := envOf (o "IOBase.__new__") (fScope (metS 16 1)) L' 167 (.ref 166), fm := fun _ => none }
  let c' : Cx := ⟨d', (fScope (metS 16 1)).names, []⟩
  have ok' : c'.d.Ok c'.ns c'.cl := ⟨B', KG, TG, Around.frames_deeper S.ok.frames, S.ok.handled, rfl, rfl, fun _ => rfl, (fun e => nomatch e), rfl, rfl, rfl, rfl, rfl, by have := S.ok.room; show c.d.A.depth + 1 + (c.d.room - 1) ≤ _; omega, by have := S.ok.units; show c.d.A.units + 3 + 20 * (c.d.room - 1) ≤ _; omega⟩
  have S' : Sim c' (bindA [o "cls"] [.ref 674]) H Rx { s with heap := h₁, toks := tk } := by
   refine ⟨ok', ⟨_, F', fun x av e => ?_⟩, fun p hp => N' p (.tail _ (.tail _ (List.mem_append_right _ hp))), fun a ao e => ?_, S.fin, hsep, S.gens, S.os, (fun e => nomatch e)⟩
   ·unfold bindA at e
    have : x = o "cls" ∧ av = .ref 674 := by
     simp only [List.zip_cons_cons, List.zip_nil_left, List.reverse_cons, List.reverse_nil, List.nil_append, List.lookup_cons, List.lookup_nil] at e
     split at e
     ·rename_i q; cases e; exact ⟨beq_iff_eq.mp q, rfl⟩
     ·cases e
    obtain ⟨rfl, rfl⟩ := this
    exact ⟨.ref 674, rfl, rfl⟩
   ·obtain ⟨o, ho, hr⟩ := hin a ao e
    have := N' _ (.tail _ (.tail _ (List.mem_append_left _ ho)))
    exact ⟨o, this.1, this.2.1, this.2.2, hr⟩
  have body : SS c' (fBody (metS 16 1)) (bindA [o "cls"] [.ref 674]) H fun f _ H1 => ∃ y dy, f.val = .ref y ∧ H y = none ∧ H dy = none ∧ dy ≠ y ∧ H1 = hset (hset H dy (.dict [])) y (.inst 674 dy) := b167
  refine body.run S' fun f af L'' H'' s' hf S2 q => ?_
  obtain ⟨m2, F2, _⟩ := S2.fr
  obtain ⟨news2, N2, hin2, _⟩ := S2.news
  have hv : VRel af.val (match (motive := Flow → Value) f with | .ret v => v | _ => .none) := by
   cases af with
   | next => cases hf; rfl
   | brk => cases hf; rfl
   | cont => cases hf; rfl
   | ret a => obtain ⟨v, rfl, hv⟩ := hf; exact hv
  exact leaveK_ F2 N2 fun F3 N3 => ⟨_, H'', hv, back s' H'' news2 F3 N3 hin2 S2.fin S2.sep S2.gens (S2.os.trans S.os.symm), q⟩
end
end
end
section
set_option maxHeartbeats 400000
noncomputable section
section
variable {c : Cx} {L : AL} {H : AH} {R : List (Addr × Obj)} {s : Shared} {Q : AV → AH → Prop}
theorem CallW.io {x : AV} (hroom : 3 ≤ c.d.room) (h : ∀ A y dy, Near c.d.A A → H y = none → H dy = none → dy ≠ y → CodeW (c.to A) (.ref 444) [.ref y, x] [] [] L (hset (hset H dy (.dict [])) y (.inst 674 dy)) fun v H' => v = .none ∧ Q (.ref y) H') : CallW c (.ref 674) [x] L H Q := by
 rintro _ (_ | @⟨_, xv, _, _, hxv, _ | _⟩) R s S
 obtain ⟨oc, od, cd, sl, hK, e1, e2, e4, hm⟩ := io_obj c.d.w.params
 have X := S.kin
 have hC := X _ _ hK
 obtain ⟨hp, g, d, t, os⟩ := s
 have made : Looks (model prg c.d.w) hp (Bind.madeBy (.ref 674)) none := Looks.of_peek X (io_made _ _)
 have self : Looks (model prg c.d.w) hp (isSubtype (.ref 674) (.ref 674)) true := looks_mroIn X (io_self _)
 have typ : Looks (model prg c.d.w) hp (isInstance (.ref 674) (.type "type")) true := looks_instIn X (io_inst _)
 have call : Looks (model prg c.d.w) hp (specialOf (.ref 674) "__call__") (some (.builtin "type.__call__")) := looks_specialIn X (io_call _)
 have hmro : Looks (model prg c.d.w) hp (mroOf (.ref 674)) cd.mro := ((Looks.ld (part := none) hC).andThen .now).andThen .now
 refine wpAny_call (codeAny_of_tree ?_)
 show wpAny _ _ (callAny (.ref 674) _) _ _ _
 refine nd_load hC ?_
 show wpAny _ _ (callAny.viaDunder (.ref 674) _) _ _ _
 unfold callAny.viaDunder
 refine wpAny_bind (call.at ?_)
 dsimp only
 rw [tc_bind]
 refine wpAny_bind (wpAny_pure (wpAny_bind (wpAny_pure ?_)))
 refine wpAny_pure (a := Fin.again (.call (.builtin "type.__call__") ⟨[.ref 674, xv], []⟩)) (And.intro rfl ?_)
 refine codeAny_call_builtin_at (Code.quiet_builtin _ (by decide +kernel)) entry_typeCall (check_slot tc_kind tc_split typ (tc_args _ _ _) ?_)
 unfold Builtin.«type.__call__»
 have nr : Near c.d.A (c.d.A.under (.builtin "type.__call__" ⟨[.ref 674, xv], []⟩)) := Near.makes _
 generalize c.d.A.under (.builtin "type.__call__" ⟨[.ref 674, xv], []⟩) = A1 at nr ⊢
 dsimp only
 iterate 3 lk
 rw [if_neg (by rw [e4]; decide)]
 refine wpAny_bind (made.at ?_)
 dsimp only
 refine wpAny_bind ?_
 obtain ⟨m, F, _⟩ := S.fr
 refine cls_sm (mc := .type "type") F S.ok.kin (io_ty _) (io_rd _) (io_fc _) (io_sm _) (by rfl) ?_
 have S1 : Sim (c.to A1) L H R ⟨hp, g, d, t + 1, os⟩ := (S.toks (tk := t + 1)).to nr (by omega)
 refine wpAny_bind (wpAny_holding ((CallKW.toCall (CodeW.toKW (c167 (x := x) (by show 2 ≤ c.d.room - 1; omega))) [.ref 674, xv] (.cons (a := .ref 674) rfl (.cons hxv .nil))).run S1 fun v av H1 s1 hv S2 q => ?_))
 obtain ⟨y, dy, rfl, ny, ndy, hne, rfl⟩ := q
 cases hv
 have S3 := S.off S2
 obtain ⟨ds, n, I, hr⟩ := S3.inst (hset_same _ _ _) ((hset_ne hne).trans (hset_same _ _ _))
 have Xs := S3.kin
 obtain ⟨hp1, g1, d1, t1, os1⟩ := s1
 have ty : Looks (model prg c.d.w) hp1 (typeOf (.ref y)) (.ref 674) := I.type
 have self1 : Looks (model prg c.d.w) hp1 (isSubtype (.ref 674) (.ref 674)) true := looks_mroIn Xs (io_self _)
 have init1 : Looks (model prg c.d.w) hp1 (typeLookup (.ref 674) "__init__") (some (.ref 444)) := looks_findIn Xs (io_init _)
 have b1 : Looks (model prg c.d.w) hp1 (bindSpecial (.ref 444) (.ref y)) (.ref 444, [.ref y]) := bind_fn Xs _ (io_fn _)
 unfold isInstance callSpecial? specialOf
 repeat (first | with_reducible refine wpAny_call ?_ | lk)
 refine RetP.to (h A1 y dy nr ny ndy hne [.ref y, xv] [] (.cons (a := .ref y) rfl (.cons hxv .nil)) .nil R _ (S3.to nr (by omega))) fun v s' q => ?_
 obtain ⟨av, H', hv', S4, e, q⟩ := q
 subst e
 cases hv'
 exact wpAny_pure (wpAny_pure ⟨.ref y, H', rfl, S.off S4, q⟩)
end
end
end
local macro_rules | `(tactic| walk_at "tr") => `(tactic| (refine iteT (by first | rfl | decide) ?_))
local macro_rules | `(tactic| walk_at "fa") => `(tactic| (refine iteF (by first | rfl | decide) ?_))
section
set_option maxHeartbeats 4000000
noncomputable section
theorem f444 (P) : (Kf P).lookup 444 = some (fnO (metS 20 1) (o "StringIO.__init__") (.ref 437) (.str (o "io") 483) (.ref 443)) := by rfl
theorem g444 (P) : codeIn (Kf P) (.ref 443) (o "StringIO.__init__") = true := rfl
theorem f451 (P) : (Kf P).lookup 451 = some (fnO (metS 20 2) (o "StringIO.__translated") .none (.str (o "io") 483) (.ref 450)) := by rfl
theorem g451 (P) : codeIn (Kf P) (.ref 450) (o "StringIO.__translated") = true := rfl
theorem s674_n (P) : setOk (Kf P) 674 (Str.ofString "_StringIO__newline") = true := by kernel_rfl
theorem s674_b (P) : setOk (Kf P) 674 (Str.ofString "_StringIO__buf") = true := by kernel_rfl
theorem p674_t (P) : plainGet (Kf P) 674 (Str.ofString "_StringIO__translated") = true := by kernel_rfl
theorem i674_t (P) : findIn (Kf P) (.ref 674) (Str.ofString "_StringIO__translated") = some (some (.ref 451)) := by kernel_rfl
theorem n451 (P) : isFn (Kf P) (.ref 451) = true := by kernel_rfl
theorem k451 (P) : keepIn (Kf P) (.ref 451) = true := rfl
section
variable {c : Cx} {L : AL} {H Hd : AH} {Q : AV → AH → Prop}
theorem SetW.grow {y dy C : Addr} {es es' : List (Str × AV)} {ow : List (Addr × AObj)} {name : Str} {v : AV} {Q : AH → Prop} (hy : Hd y = some (.inst C dy)) (w : Own Hd ((dy, .dict es) :: ow) H) (hok : setOk (KP c) C name = true) (hz : es.length ≤ 900) (he : putA name v es = es')
  (q : ∀ H', Own Hd ((dy, .dict es') :: ow) H' → Q H') : SetW c (.ref y) name v L H Q :=
 SetW.own (w.le _ _ hy) (w.get _ (.head _)) hok hz (q _ (he ▸ w.put0))
theorem c451 {x dx : Addr} {buf s : W} {pos : Int} (hroom : 1 ≤ c.d.room) (h : IoAt H x dx buf pos) : CodeW c (.ref 451) [.ref x, .str (S s)] [] [] L H fun a H' => a = .str (S s) ∧ H' = H := by
 refine CodeW.enterP (ns := [o "self", o "s"]) (bas := [.ref x, .str (S s)]) (f451 _) (g451 _) (by first | exact room_1 hroom tt | omega) (fun vs ws hv hw => ?_) (by rfl) (by rfl) (by rfl) (by rfl) (by rfl) fun d hrm _ Pf hPf => ?_
 ·exact bind2 hv fun _ _ _ _ => BindsTo.of_eq (by rfl)
 conv in fBody _ => whnf
 repeat walk_at "f"
 refine GetW.ioN h ?_
 repeat walk_at "f"
 refine CmpW.isN rfl ?_
 walk_at "fa"
 repeat walk_at "f"
 walk_at "fa"
 repeat walk_at "f"
 walk_at "fa"
 repeat walk_at "f"
 exact ⟨rfl, rfl⟩
theorem c444 {x dx : Addr} {t : W} (hroom : 2 ≤ c.d.room) (hx : H x = some (.inst 674 dx)) (hd : H dx = some (.dict [])) (hne : dx ≠ x) : CodeW c (.ref 444) [.ref x, .str (S t)] [] [] L H fun a H' => a = .none ∧ H' = hset H dx (.dict (ioD t 0)) := by
 generalize hQ : (fun (a : AV) (H' : AH) => a = .none ∧ H' = hset H dx (.dict (ioD t 0))) = Q
 refine CodeW.enterP (ns := [o "self", o "initial_value", o "newline"]) (bas := [.ref x, .str (S t), .str (S [10])]) (f444 _) (g444 _) (by first | exact room_1 hroom tt | omega) (fun vs ws hv hw => ?_) (by rfl) (by rfl) (by rfl) (by rfl) (by rfl) fun d hrm _ Pf hPf => ?_
 ·obtain ⟨_, _, rfl, h1, hv⟩ := hv.cons_inv
  obtain ⟨_, _, rfl, h2, hv⟩ := hv.cons_inv
  cases hv; cases hw
  exact ⟨[_, _, .str (Str.mk #[10]) 868], .cons h1 (.cons h2 (.cons ⟨_, rfl⟩ .nil)), fun s X => BindsTo.of_defaults (T := 437) (o := ⟨.type "tuple", none, .seq #[.str (o "") 867, .str (Str.mk #[10]) 868] 0, #[]⟩) (items := #[.str (o "") 867, .str (Str.mk #[10]) 868]) rfl (X _ _ rfl) rfl rfl rfl⟩
 have w0 : Own (hdel H dx) [(dx, .dict [])] H := (Own.nil H).take hd
 have hx0 : hdel H dx x = some (.inst 674 dx) := (hdel_ne (Ne.symm hne)).trans hx
 have fin : ∀ H', Own (hdel H dx) [(dx, .dict (ioD t 0))] H' → Q .none H' := fun H' w => by
  rw [← hQ]
  refine ⟨rfl, w.settle.all.trans (funext fun b => ?_)⟩
  by_cases q : b = dx
  ·rw [q, hset_same, hset_same]
  ·rw [hset_ne q, hset_ne q, hdel_ne q]
 conv in fBody _ => whnf
 repeat walk_at "f"
 refine CmpW.isNotN rfl ?_
 walk_at "tr"
 repeat walk_at "f"
 refine CallW.typS ?_
 repeat walk_at "f"
 refine CmpW.isNotT ?_
 walk_at "fa"
 repeat walk_at "f"
 refine CB.and (AndW.cons ?_)
 repeat walk_at "f"
 refine CmpW.isNotN rfl ?_
 walk_at "tr"
 refine AndW.cons ?_
 repeat walk_at "f"
 walk_at "tr"
 refine AndW.cons ?_
 repeat walk_at "f"
 walk_at "fa"
 walk_at "fa"
 repeat walk_at "f"
 refine CmpW.isNotN rfl ?_
 walk_at "tr"
 repeat walk_at "f"
 refine CallW.typS ?_
 repeat walk_at "f"
 refine CmpW.isNotT ?_
 walk_at "fa"
 repeat walk_at "f"
 refine SetW.grow hx0 w0 (s674_n _) (by decide) rfl fun H1 w1 => ?_
 repeat walk_at "f"
 refine SetW.grow hx0 w1 (s674_b _) (by decide) rfl fun H2 w2 => ?_
 repeat walk_at "f"
 refine SetW.grow hx0 w2 (s674_p _) (by decide) (es' := ioD [] 0) rfl fun H3 w3 => ?_
 repeat walk_at "f"
 refine CmpW.isNotN rfl ?_
 walk_at "tr"
 repeat walk_at "f"
 refine EW.meth ?_
 have hio : IoAt H3 x dx [] 0 := ⟨w3.le _ _ hx0, w3.get _ (.head _)⟩
 repeat walk_at "f"
 refine ⟨_, _, ⟨rfl, ⟨_, _, _, hio.x, hio.d, rfl, p674_t _, i674_t _⟩, n451 _, k451 _⟩, ?_⟩
 repeat walk_at "f"
 refine (CallKW.toCall (CodeW.toKW (c451 (by first | exact room_le hroom hrm tt | exact room_le hroom hr tt | (show 1 ≤ d.room; omega)) hio))).mono fun v H4 h4 => ?_
 obtain ⟨rfl, rfl⟩ := h4
 repeat walk_at "f"
 refine SetW.grow hx0 w3 (s674_b _) (by decide) (es' := ioD t 0) rfl fun H5 w5 => ?_
 repeat walk_at "f"
 exact fin _ w5
theorem CallW.sio {t : W} (hroom : 3 ≤ c.d.room) (h : ∀ y dy, H y = none → H dy = none → dy ≠ y → Q (.ref y) (hset (hset H y (.inst 674 dy)) dy (.dict (ioD t 0)))) : CallW c (.ref 674) [.str (S t)] L H Q :=
 CallW.io hroom fun A y dy nr h1 h2 hne => (c444 (c := c.to A) (by show 2 ≤ c.d.room - 1; omega) (hset_same _ _ _) ((hset_ne hne).trans (hset_same _ _ _)) hne).mono fun v H' q => by
  obtain ⟨rfl, rfl⟩ := q
  refine ⟨rfl, ?_⟩
  have e : hset (hset (hset H dy (.dict [])) y (.inst 674 dy)) dy (.dict (ioD t 0)) = hset (hset H y (.inst 674 dy)) dy (.dict (ioD t 0)) := funext fun b => by
   by_cases q : b = dy
   ·rw [q, hset_same, hset_same]
   ·rw [hset_ne q, hset_ne q]
    by_cases q2 : b = y
    ·rw [q2, hset_same, hset_same]
    ·rw [hset_ne q2, hset_ne q2, hset_ne q]
  rw [e]
  exact h y dy h1 h2 hne
end
end
end
section
set_option maxHeartbeats 4000000
noncomputable section
theorem f733 (P) : (Kf P).lookup 733 = some (fnO (metS 29 0) (o "shlex.__init__") (.ref 726) (.str (o "cpy313.shlex") 1198) (.ref 732)) := by rfl
theorem g733 (P) : codeIn (Kf P) (.ref 732) (o "shlex.__init__") = true := rfl
theorem s809_a (P) : (["instream", "infile", "posix", "eof", "commenters", "wordchars", "whitespace", "whitespace_split", "quotes", "escape", "escapedquotes", "state", "pushback", "lineno", "debug", "token", "filestack", "source", "_punctuation_chars"].all fun n => setOk (Kf P) 809 (Str.ofString n)) = true := by kernel_rfl
noncomputable def shI (wc : W) (ws : Bool) (io pb fs : Addr) : List (Str × AV) := [(Str.ofString "instream", .ref io), (Str.ofString "infile", .none), (Str.ofString "posix", .bool true), (Str.ofString "eof", .none), (Str.ofString "commenters", .str (S [35])), (Str.ofString "wordchars", .str (S wc)), (Str.ofString "whitespace", .str (S [32, 9, 13, 10])), (Str.ofString "whitespace_split", .bool ws), (Str.ofString "quotes", .str (S [39, 34])), (Str.ofString "escape", .str (S [92])), (Str.ofString "escapedquotes", .str (S [34])), (Str.ofString "state", .str (S [32])), (Str.ofString "pushback", .ref pb), (Str.ofString "lineno", .int 1), (Str.ofString "debug", .int 0), (Str.ofString "token", .str (S [])), (Str.ofString "filestack", .ref fs), (Str.ofString "source", .none), (Str.ofString "_punctuation_chars", .str (S []))]
theorem shI_D (io pb fs : Addr) : shI wcW true io pb fs = shD io pb fs (.str (S [32])) 1 [] := rfl
section
variable {c : Cx} {L : AL} {H Hd : AH} {Q : AV → AH → Prop}
theorem EW.callT0 {x : Str} {np pos : Pos} (h : EW c (.Name x np) L H fun f H1 => ∃ n, f = .typ n ∧ CallW c (.type n) [] L H1 Q) : EW c (.Call (.Name x np) [] [] pos) L H Q := fun R s S =>
 Call_Name0 (h.run S fun f af H1 s1 hf S1 zz => by
  obtain ⟨n, e, q⟩ := zz
  subst e; cases hf
  exact PyProof.Rows.callWith_type rfl (evalArgs_nil3 (q [] .nil R _ S1)))
theorem SetW.shG {y dy : Addr} {es es' : List (Str × AV)} {ow : List (Addr × AObj)} {name : String} {v : AV} {Q : AH → Prop} (hy : Hd y = some (.inst 809 dy)) (w : Own Hd ((dy, .dict es) :: ow) H)
  (hok : ["instream", "infile", "posix", "eof", "commenters", "wordchars", "whitespace", "whitespace_split", "quotes", "escape", "escapedquotes", "state", "pushback", "lineno", "debug", "token", "filestack", "source", "_punctuation_chars"].contains name = true)
  (hz : es.length ≤ 900) (he : putA (Str.ofString name) v es = es') (q : ∀ H', Own Hd ((dy, .dict es') :: ow) H' → Q H') : SetW c (.ref y) (Str.ofString name) v L H Q :=
 SetW.grow hy w (List.all_eq_true.mp (s809_a _) name (List.contains_iff_mem.mp hok)) hz he q
noncomputable def shP (wc : W) (ws : Bool) (io pb fs : Addr) (k : Nat) : List (Str × AV) := (shI wc ws io pb fs).take k
theorem shP_len (wc : W) (ws : Bool) (io pb fs : Addr) (k : Nat) : (shP wc ws io pb fs k).length ≤ 900 := Nat.le_trans (List.length_take_le' _ _) (by decide : 19 ≤ 900)
theorem Own.swap {a b : Addr × AObj} {ow : List (Addr × AObj)} (w : Own Hd (a :: b :: ow) H) : Own Hd (b :: a :: ow) H := by
 have m : ∀ p, p ∈ b :: a :: ow → p ∈ a :: b :: ow := fun p hp => by
  rcases List.mem_cons.mp hp with rfl | hp
  ·exact .tail _ (.head _)
  ·rcases List.mem_cons.mp hp with rfl | hp
   ·exact .head _
   ·exact .tail _ (.tail _ hp)
 have m' : ∀ p, p ∈ a :: b :: ow → p ∈ b :: a :: ow := fun p hp => by
  rcases List.mem_cons.mp hp with rfl | hp
  ·exact .tail _ (.head _)
  ·rcases List.mem_cons.mp hp with rfl | hp
   ·exact .head _
   ·exact .tail _ (.tail _ hp)
 exact ⟨fun p hp => w.get p (m p hp), fun p hp => w.non p (m p hp), fun x hx => w.same x fun p hp => hx p (m' p hp), by
  have := w.nd
  simp only [List.map_cons, List.nodup_cons, List.mem_cons, not_or] at this ⊢
  exact ⟨⟨Ne.symm this.1.1, this.2.1⟩, this.1.2, this.2.2⟩⟩
theorem GetW.shO {y dy : Addr} {es : List (Str × AV)} {ow : List (Addr × AObj)} {name : Str} {v : AV} (hy : Hd y = some (.inst 809 dy)) (w : Own Hd ((dy, .dict es) :: ow) H) (hok : ownOk (KP c) 809 name = true) (hl : getA name es = some v) (hb : v.isBlt = false) (q : Q v H) : GetW c (.ref y) name L H Q := GetW.own (w.le _ _ hy) (w.get _ (.head _)) hl hok q hb
inductive LexNew (H0 : AH) (y dy : Addr) (t : W) (H' : AH) : Prop
 | mk' (io dio pb fs : Addr) (Hd : AH) (k : HLe H0 Hd) (h1 : Hd io = some (.inst 674 dio)) (h2 : Hd pb = some (.raw dqO)) (h3 : Hd fs = some (.raw dqO)) (w : Own Hd [(dy, .dict (shI wcW false io pb fs)), (dio, .dict (ioD t 0))] H')
noncomputable def wcA : W := lit "abcdfeghijklmnopqrstuvwxyzABCDEFGHIJKLMNOPQRSTUVWXYZ0123456789_"
theorem c733 {y dy : Addr} {t : W} (hroom : 4 ≤ c.d.room) (hy : H y = some (.inst 809 dy)) (hd : H dy = some (.dict [])) (hne : dy ≠ y) : CodeW c (.ref 733) [.ref y, .str (S t)] [o "posix"] [.bool true] L H fun a H' => a = .none ∧ LexNew (hdel H dy) y dy t H' := by
 generalize hQ : (fun (a : AV) (H' : AH) => a = .none ∧ LexNew (hdel H dy) y dy t H') = Q
 refine CodeW.enterP (ns := [o "self", o "instream", o "infile", o "posix", o "punctuation_chars"]) (bas := [.ref y, .str (S t), .none, .bool true, .bool false]) (f733 _) (g733 _) (by first | exact room_1 hroom tt | omega) (fun vs ws hv hw => ?_) (by rfl) (by rfl) (by rfl) (by rfl) (by rfl) fun d hrm _ Pf hPf => ?_
 ·obtain ⟨_, _, rfl, h1, hv⟩ := hv.cons_inv
  obtain ⟨_, _, rfl, h2, hv⟩ := hv.cons_inv
  obtain ⟨_, _, rfl, h3, hw⟩ := hw.cons_inv
  cases hv; cases hw
  exact ⟨[_, _, .none, _, .bool false], .cons h1 (.cons h2 (.cons (a := .none) rfl (.cons h3 (.cons (a := .bool false) rfl .nil)))), fun s X => BindsTo.of_defaults (T := 726) (o := ⟨.type "tuple", none, .seq #[.none, .none, .bool false, .bool false] 0, #[]⟩) (items := #[.none, .none, .bool false, .bool false]) rfl (X _ _ rfl) rfl rfl rfl⟩
 have w0 : Own (hdel H dy) [(dy, .dict [])] H := (Own.nil H).take hd
 have hy0 : hdel H dy y = some (.inst 809 dy) := (hdel_ne (Ne.symm hne)).trans hy
 have fin : ∀ io dio pb fs Hd H', HLe (hdel H dy) Hd → Hd io = some (.inst 674 dio) → Hd pb = some (.raw dqO) → Hd fs = some (.raw dqO) → Own Hd [(dy, .dict (shI wcW false io pb fs)), (dio, .dict (ioD t 0))] H' → Q .none H' :=
  fun io dio pb fs Hd H' h1 h2 h3 h4 h5 => by rw [← hQ]; exact ⟨rfl, io, dio, pb, fs, Hd, h1, h2, h3, h4, h5⟩
 have H00 : HLe (hdel H dy) (hdel H dy) := HLe.rfl
 generalize hdel H dy = H0 at w0 hy0 fin H00
 clear hQ hy hd
 conv in fBody _ => whnf
 repeat walk_at "f"
 refine CB.val ?_
 repeat walk_at "f"
 refine CallW.isStr ?_
 refine TrW.bool ?_
 walk_at "tr"
 repeat walk_at "f"
 refine CallW.sio (by first | exact room_le hroom hrm tt | exact room_le hroom hr tt | (show 3 ≤ d.room; omega)) fun io dio h1 h2 h3 => ?_
 have u1 := w0.back h1
 have w1 := w0.alloc (o := .inst 674 dio) h1
 have h2' : hset H io (.inst 674 dio) dio = none := (hset_ne h3).trans h2
 have w1' := w1.alloc (o := .dict (ioD t 0)) h2'
 have w2 := w1'.take (hset_same _ _ _)
 have w3 : Own (hset H0 io (.inst 674 dio)) [(dy, .dict []), (dio, .dict (ioD t 0))] (hset (hset H io (.inst 674 dio)) dio (.dict (ioD t 0))) := by
  have e : hdel (hset (hset H0 io (.inst 674 dio)) dio (.dict (ioD t 0))) dio = hset H0 io (.inst 674 dio) := funext fun b => by
   by_cases q : b = dio
   ·rw [q, hdel_self, w1.back h2']
   ·rw [hdel_ne q, hset_ne q]
  rw [e] at w2
  exact w2.swap
 have hy1 : hset H0 io (.inst 674 dio) y = some (.inst 809 dy) := hset_old u1 hy0
 have hio : hset H0 io (.inst 674 dio) io = some (.inst 674 dio) := hset_same _ _ _
 have H01 : HLe H0 (hset H0 io (.inst 674 dio)) := HLe.put u1 HLe.rfl
 generalize hset (hset H io (.inst 674 dio)) dio (.dict (ioD t 0)) = H1 at w3
 generalize hset H0 io (.inst 674 dio) = Hd at w3 hy1 hio H01
 clear w0 w1 w1' w2 hy0 u1
 have fin1 : ∀ pb fs Hd H', HLe H0 Hd → Hd io = some (.inst 674 dio) → Hd pb = some (.raw dqO) → Hd fs = some (.raw dqO) → Own Hd [(dy, .dict (shI wcW false io pb fs)), (dio, .dict (ioD t 0))] H' → Q .none H' := fun pb fs Hd H' => fin io dio pb fs Hd H'
 clear fin
 generalize [(dio, AObj.dict (ioD t 0))] = ow at w3 fin1
 repeat walk_at "f"
 refine CmpW.isNotN rfl ?_
 walk_at "tr"
 repeat walk_at "f"
 refine SetW.shG hy1 w3 (by decide) (by decide) (es' := shP wcA false io 0 0 1) rfl fun H4 w4 => ?_
 repeat walk_at "f"
 refine SetW.shG hy1 w4 (by decide) (shP_len _ _ _ _ _ _) (es' := shP wcA false io 0 0 2) rfl fun H5 w5 => ?_
 repeat walk_at "f"
 refine SetW.shG hy1 w5 (by decide) (shP_len _ _ _ _ _ _) (es' := shP wcA false io 0 0 3) rfl fun H6 w6 => ?_
 repeat walk_at "f"
 refine CB.val ?_
 repeat walk_at "f"
 refine TrW.bool ?_
 walk_at "tr"
 repeat walk_at "f"
 refine SetW.shG hy1 w6 (by decide) (shP_len _ _ _ _ _ _) (es' := shP wcA false io 0 0 4) rfl fun H7 w7 => ?_
 repeat walk_at "f"
 refine SetW.shG hy1 w7 (by decide) (shP_len _ _ _ _ _ _) (es' := shP wcA false io 0 0 5) rfl fun H8 w8 => ?_
 repeat walk_at "f"
 refine SetW.shG hy1 w8 (by decide) (shP_len _ _ _ _ _ _) (es' := shP wcA false io 0 0 6) rfl fun H9 w9 => ?_
 repeat walk_at "f"
 refine CB.val ?_
 repeat walk_at "f"
 refine GetW.shO hy1 w9 (o809_posix _) rfl rfl ?_
 refine TrW.bool ?_
 walk_at "tr"
 walk_at "f"
 refine ST.augA ?_
 repeat walk_at "f"
 refine GetW.shO hy1 w9 (o809_wordchars _) rfl rfl ?_
 repeat walk_at "f"
 refine IpW.addSS (by decide) ?_
 refine SetW.shG hy1 w9 (by decide) (shP_len _ _ _ _ _ _) (es' := shP wcW false io 0 0 6) rfl fun H10 w10 => ?_
 repeat walk_at "f"
 refine SetW.shG hy1 w10 (by decide) (shP_len _ _ _ _ _ _) (es' := shP wcW false io 0 0 7) rfl fun H11 w11 => ?_
 repeat walk_at "f"
 refine SetW.shG hy1 w11 (by decide) (shP_len _ _ _ _ _ _) (es' := shP wcW false io 0 0 8) rfl fun H12 w12 => ?_
 repeat walk_at "f"
 refine SetW.shG hy1 w12 (by decide) (shP_len _ _ _ _ _ _) (es' := shP wcW false io 0 0 9) rfl fun H13 w13 => ?_
 repeat walk_at "f"
 refine SetW.shG hy1 w13 (by decide) (shP_len _ _ _ _ _ _) (es' := shP wcW false io 0 0 10) rfl fun H14 w14 => ?_
 repeat walk_at "f"
 refine SetW.shG hy1 w14 (by decide) (shP_len _ _ _ _ _ _) (es' := shP wcW false io 0 0 11) rfl fun H15 w15 => ?_
 repeat walk_at "f"
 refine SetW.shG hy1 w15 (by decide) (shP_len _ _ _ _ _ _) (es' := shP wcW false io 0 0 12) rfl fun H16 w16 => ?_
 repeat walk_at "f"
 refine EW.callT0 ?_
 refine EW.gT (by with_unfolding_all rfl) (by walk_at "gl") ?_
 refine ⟨_, rfl, CallW.deque fun pb npb => ?_⟩
 have w17 := w16.alloc (o := .raw dqO) npb
 have upb := w16.back npb
 have hpb : hset Hd pb (.raw dqO) pb = some (.raw dqO) := hset_same _ _ _
 generalize hset H16 pb (.raw dqO) = H17 at w17
 have hy2 : hset Hd pb (.raw dqO) y = _ := hset_old upb hy1
 have hio2 : hset Hd pb (.raw dqO) io = _ := hset_old upb hio
 have H02 : HLe H0 (hset Hd pb (.raw dqO)) := HLe.put upb H01
 generalize hset Hd pb (.raw dqO) = Hd2 at w17 hy2 hio2 H02 hpb
 repeat walk_at "f"
 refine SetW.shG hy2 w17 (by decide) (shP_len _ _ _ _ _ _) (es' := shP wcW false io pb 0 13) rfl fun H18 w18 => ?_
 repeat walk_at "f"
 refine SetW.shG hy2 w18 (by decide) (shP_len _ _ _ _ _ _) (es' := shP wcW false io pb 0 14) rfl fun H19 w19 => ?_
 repeat walk_at "f"
 refine SetW.shG hy2 w19 (by decide) (shP_len _ _ _ _ _ _) (es' := shP wcW false io pb 0 15) rfl fun H20 w20 => ?_
 repeat walk_at "f"
 refine SetW.shG hy2 w20 (by decide) (shP_len _ _ _ _ _ _) (es' := shP wcW false io pb 0 16) rfl fun H21 w21 => ?_
 repeat walk_at "f"
 refine EW.callT0 ?_
 refine EW.gT (by with_unfolding_all rfl) (by walk_at "gl") ?_
 refine ⟨_, rfl, CallW.deque fun fs nfs => ?_⟩
 have w22 := w21.alloc (o := .raw dqO) nfs
 have ufs := w21.back nfs
 have hfs : hset Hd2 fs (.raw dqO) fs = some (.raw dqO) := hset_same _ _ _
 generalize hset H21 fs (.raw dqO) = H22 at w22
 have hy3 : hset Hd2 fs (.raw dqO) y = _ := hset_old ufs hy2
 have hio3 : hset Hd2 fs (.raw dqO) io = _ := hset_old ufs hio2
 have H03 : HLe H0 (hset Hd2 fs (.raw dqO)) := HLe.put ufs H02
 have hpb3 : hset Hd2 fs (.raw dqO) pb = _ := hset_old ufs hpb
 generalize hset Hd2 fs (.raw dqO) = Hd3 at w22 hy3 hio3 H03 hfs hpb3
 repeat walk_at "f"
 refine SetW.shG hy3 w22 (by decide) (shP_len _ _ _ _ _ _) (es' := shP wcW false io pb fs 17) rfl fun H23 w23 => ?_
 repeat walk_at "f"
 refine SetW.shG hy3 w23 (by decide) (shP_len _ _ _ _ _ _) (es' := shP wcW false io pb fs 18) rfl fun H24 w24 => ?_
 repeat walk_at "f"
 refine CB.val ?_
 repeat walk_at "f"
 refine TrW.bool ?_
 walk_at "tr"
 repeat walk_at "f"
 refine SetW.shG hy3 w24 (by decide) (shP_len _ _ _ _ _ _) (es' := shI wcW false io pb fs) rfl fun H25 w25 => ?_
 repeat walk_at "f"
 refine CB.val ?_
 repeat walk_at "f"
 refine TrW.str (by decide) ?_
 walk_at "fa"
 repeat walk_at "f"
 exact fin1 pb fs Hd3 _ H03 hio3 hpb3 hfs w25
end
end
end
section
set_option maxHeartbeats 4000000
local macro_rules | `(tactic| walk_at "sh") => `(tactic| first | with_reducible refine GetW.sh_pushback (by assumption) ?_ | with_reducible refine GetW.sh_source (by assumption) ?_ | with_reducible refine GetW.sh_eof (by assumption) ?_ | with_reducible refine GetW.sh_filestack (by assumption) ?_ | with_reducible refine GetW.sh_debug (by assumption) ?_)
noncomputable section
theorem f821 (P) : (Kf P).lookup 821 = some (fnO (topS 30) (o "split") (.ref 814) (.str (o "cpy313.shlex") 1198) (.ref 820)) := by rfl
theorem g821 (P) : codeIn (Kf P) (.ref 820) (o "split") = true := rfl
theorem make809 (P) : makesIn (Kf P) 809 = true := by kernel_rfl
theorem init809 (P) : findIn (Kf P) (.ref 809) "__init__" = some (some (.ref 733)) := by kernel_rfl
theorem fn733 (P) : isFn (Kf P) (.ref 733) = true := by kernel_rfl
theorem n799 (P) : isFn (Kf P) (.ref 799) = true := by kernel_rfl
theorem i809_it (P) : findIn (Kf P) (.ref 809) "__iter__" = some (some (.ref 799)) := by kernel_rfl
theorem i809_ln (P) : findIn (Kf P) (.ref 809) (Str.ofString "__len__") = some none := by kernel_rfl
theorem i809_lh (P) : findIn (Kf P) (.ref 809) (Str.ofString "__length_hint__") = some none := by kernel_rfl
theorem gStop (P) : nsIn (Kf P) mainGlobals (Str.ofString "StopIteration") = some none := by kernel_rfl
theorem bStop : bootBuiltins (Str.ofString "StopIteration") = some (.type "StopIteration") := by kernel_rfl
inductive Lxs : LS → W → List W → Prop
 | stop {s s' : LS} {r r' : W} (hs : ∀ n, s ≠ .q n) (h : Lx s [] false r ([], false, s', r')) : Lxs s r []
 | tok {s s' : LS} {r r' w : W} {q : Bool} {ws : List W} (hs : ∀ n, s ≠ .q n) (h : Lx s [] false r (w, q, s', r')) (hn : ¬(q = false ∧ w = [])) (k : Lxs s' r' ws) : Lxs s r (w :: ws)
section
variable {c : Cx} {L : AL} {a : LexA} {Hd H : AH} {pos : Nat} {st : AV} {ln : Int} {tok : W}
theorem KS.one {n : Str} {e : Expr} {p pos : Pos} {Q : List AV → AH → Prop} (h : EW c e L H fun a H1 => Q [a] H1) : KS c [⟨some n, e, p⟩] pos L H Q := fun R s S => by
 show wpAny _ _ (evalAll [do let v ← eval e c.d.env; standAt pos; pure v]) _ _ _
 exact wpAny_evalAll_cons (wpAny_bind (h.run S fun v av H' s' hv S' q => wpAny_bind (wpAny_standAt (wpAny_pure (wpAny_evalAll_nil ⟨[av], H', .cons hv .nil, S', q⟩)))))
theorem b806 {d : Dy} {res : W × Bool × LS × W} {s0 : LS} (hroom : 5 ≤ d.room) (hb : a.buf.length ≤ 1000000) (hpb : Hd a.pb = some (.raw dqO)) (hfs : Hd a.fs = some (.raw dqO)) (h : Lex a Hd H pos (avS s0) ln []) (hs : ∀ n, s0 ≠ .q n) (hx : Lx s0 [] false (a.buf.drop pos) res) (hn : res.2.1 = false ∧ res.1 = []) :
  RaiseW ⟨d, (fScope (metS 29 10)).names, []⟩ (fBody (metS 29 10)) (bindA [o "self"] [.ref a.y]) H fun H' => HLe Hd H' := by
 conv in fBody _ => whnf
 refine RaiseW.cons ?_
 repeat walk_at "f"
 refine EW.meth0 ?_
 repeat walk_at "f"
 refine ⟨_, _, MethAt.gt h, ?_⟩
 refine (CallKW.toCall (CodeW.toKW (c770 (by first | exact room_le hroom hrm tt | exact room_le hroom hr tt | (show 5 ≤ d.room; omega)) hb hpb hfs h hs hx))).mono fun v H2 h2 => ?_
 obtain ⟨rfl, pos2, ln2, Hd1, kH, h2, hd2⟩ := h2
 rw [show tokV res = .none from if_pos hn]
 repeat walk_at "f"
 refine RaiseW.iff ?_
 repeat walk_at "f"
 walk_at "sh"
 refine CmpW.eqNN ⟨rfl, ?_⟩
 exact RaiseW.raise (by rfl) (gStop _) bStop (kH.trans h2.own.le)
theorem NxE.mono {it : Addr} {Q Q' : AV → AH → Prop} {En En' : List (Addr × Obj) → Shared → Prop} (h : NxE c it L H Q En) (k : ∀ a H', Q a H' → Q' a H') (k' : ∀ R s, En R s → En' R s) : NxE c it L H Q' En' := fun R s S =>
 wpAny_mono (h R s S) (fun r s' q => q.imp (fun z => ⟨z.1, k' _ _ z.2⟩) fun z => by obtain ⟨v, a, H', e, hv, S', q⟩ := z; exact ⟨v, a, H', e, hv, S', k _ _ q⟩) fun _ _ x => x
theorem ItTy.shlex {y dy : Addr} {es : List (Str × AV)} (hroom : 1 ≤ c.d.room) (hy : H y = some (.inst 809 dy)) (hd : H dy = some (.dict es)) : ItTy c y (.ref 809) H L := by
 have ty : ∀ {R s}, Sim c L H R s → Looks (model prg c.d.w) s.heap (typeOf (.ref y)) (.ref 809) := fun S => let ⟨_, _, I, _⟩ := S.inst hy hd; I.type
 refine ⟨fun S q => (ty S).here q, fun S q => ?_, fun S q => ((ty S).andThen (looks_findIn S.kin (i809_ln _))).here q, fun S q => ((ty S).andThen (looks_findIn S.kin (i809_lh _))).here q, rfl, rfl⟩
 obtain ⟨ds, n, I, hr⟩ := S.inst hy hd
 obtain ⟨m, F, _⟩ := S.fr
 refine owit_iter F S.ok.kin I (i809_it _) (n799 _) ?_
 refine ((CallKW.toCall (CodeW.toKW (c799 (y := y) hroom))) [.ref y] (.cons (a := .ref y) rfl .nil)).run S fun v av H' s' hv S' q' => ?_
 obtain ⟨rfl, rfl⟩ := q'
 cases hv
 obtain ⟨ds', n', I', _⟩ := S'.inst hy hd
 obtain ⟨m', F', _⟩ := S'.fr
 exact owit_it F' S'.ok.kin I' (i809_nx _) (q _ S')
inductive LexJ (a : LexA) (Hd : AH) (toks : List W) (n : Nat) (ys : List AV) (H' : AH) : Prop
 | mk' (s0 : LS) (done left : List W) (pos : Nat) (ln : Int) (Hd1 : AH) (le : HLe Hd Hd1) (h : Lex a Hd1 H' pos (avS s0) ln []) (hx : Lxs s0 (a.buf.drop pos) left) (ey : ys = wds done) (ed : done ++ left = toks) (en : n = left.length)
theorem list_lex {toks : List W} {Q : AV → AH → Prop} (hroom : 9 ≤ c.d.room) (hcomp : c.d.comp = false) (hbase : Base c) (hb : a.buf.length ≤ 1000000) (ht : toks.length ≤ 900000) (hpb : Hd a.pb = some (.raw dqO)) (hfs : Hd a.fs = some (.raw dqO)) (h : Lex a Hd H 0 (avS .sp) ln []) (hx : Lxs .sp a.buf toks)
  (q : ∀ D H', HLe Hd H' → H' D = none → Q (.ref D) (hset H' D (.list (wds toks)))) : TX c (call (.type "list") [.ref a.y]) L H Q := by
 refine listOwn (T := .ref 809) (by omega) (by rw [h.own.le _ _ h.y]; exact fun z => nomatch z)
  (LexJ a Hd toks)
  (fun ys H' => ys = wds toks ∧ HLe Hd H') (fun A nr => ItTy.shlex (c := c.to A) (by show 1 ≤ c.d.room - 1; omega) (h.own.le _ _ h.y) h.dy) ?_
  ⟨.sp, [], toks, 0, ln, Hd, HLe.rfl, h, hx, rfl, rfl, rfl⟩ fun ys H' D z hn => by rw [z.1]; exact q D H' z.2 hn
 rintro A nr n ys H' ⟨s0, done, left, pos, ln, Hd1, kH, h1, hx1, rfl, hdl, rfl⟩
 refine ⟨by unfold wds; rw [List.length_map]; have := congrArg List.length hdl; rw [List.length_append] at this; omega, ?_⟩
 cases hx1 with
 | stop hs hl =>
  refine NxE.mono (NxE.ownStop (c := c.to A) (ns := [o "self"]) (bas := [.ref a.y]) (P := fun H' => HLe Hd1 H') hcomp hbase.to (h1.own.le _ _ h1.y) h1.dy (i809_nx _) (n806 _) (f806 _) (g806 _) (by show 1 ≤ c.d.room - 1; omega) ⟨[.ref a.y], .cons (a := .ref a.y) rfl .nil, fun s _ => BindsTo.of_eq (by rfl)⟩ (by rfl) (by rfl) (by rfl) (by rfl) (by rfl)
   fun d hrm _ => ?_) (fun _ _ q => q) fun R s z => z.imp fun g' z => z.imp fun H2 z => ⟨z.1, z.2.1, ?_, kH.trans z.2.2⟩
  ·replace hrm : d.room + 1 = c.d.room - 1 := hrm
   exact b806 (by omega) hb (kH _ _ hpb) (kH _ _ hfs) h1 hs hl ⟨rfl, rfl⟩
  ·rw [← hdl, List.append_nil]
 | @tok s s' r r' w q ws hs hl hn k =>
  refine NxE.mono (NxW.toE (NxW.own (c := c.to A) (v := .none) (Q := fun oa H' => ∃ v, oa = some v ∧ LexP a Hd1 (.str (S w)) s' r' v H') (h1.own.le _ _ h1.y) h1.dy (i809_nx _) (n806 _) ((c806 (c := c.to A) (by show 6 ≤ c.d.room - 1; omega) hb (kH _ _ hpb) (kH _ _ hfs) h1 hs hl hn).mono fun v H' z => ⟨v, rfl, z⟩))) (fun v H2 q2 => ?_) fun R s z => by obtain ⟨_, _, _, z, _⟩ := z; cases z
  obtain ⟨_, e, rfl, pos2, ln2, Hd2, kH2, h2, hd2⟩ := q2
  cases e
  refine ⟨_, Nat.lt_succ_self _, _, done ++ [w], _, pos2, ln2, Hd2, kH.trans kH2, h2, hd2 ▸ k, ?_, ?_, rfl⟩
  ·unfold wds; rw [List.map_append]; rfl
  ·rw [List.append_assoc]; exact hdl
theorem c821 {t : W} {toks : List W} (hroom : 12 ≤ c.d.room) (hcomp : c.d.comp = false) (hout : c.d.outer = []) (hbase : Base c) (hb : t.length ≤ 1000000) (ht : toks.length ≤ 900000) (hx : Lxs .sp t toks) :
  CodeW c (.ref 821) [.str (S t)] [o "comments"] [.bool true] L H (P879 H (wds toks)) := by
 refine CodeW.enterX (ns := [o "s", o "comments", o "posix"]) (bas := [.str (S t), .bool true, .bool true]) hout hcomp hbase (f821 _) (g821 _) (by first | exact room_1 hroom tt | omega) (fun vs ws hv hw => ?_) (by rfl) (by rfl) (by rfl) (by rfl) (by rfl) fun d hrm _ hcomp' hbase' => ?_
 ·obtain ⟨_, _, rfl, h1, hv⟩ := hv.cons_inv
  obtain ⟨_, _, rfl, h2, hw⟩ := hw.cons_inv
  cases hv; cases hw
  exact ⟨[_, _, .bool true], .cons h1 (.cons h2 (.cons (a := .bool true) rfl .nil)), fun s X => BindsTo.of_defaults (T := 814) (o := ⟨.type "tuple", none, .seq #[.bool false, .bool true] 0, #[]⟩) (items := #[.bool false, .bool true]) rfl (X _ _ rfl) rfl rfl rfl⟩
 conv in fBody _ => whnf
 refine SX.cons ?_
 repeat walk_at "f"
 refine CmpW.isN rfl ?_
 walk_at "fa"
 repeat walk_at "f"
 refine SX.cons ?_
 repeat walk_at "f"
 refine EW.callKW ?_
 refine EW.gR (by with_unfolding_all rfl) (by walk_at "gl") ?_
 refine ⟨_, rfl, by walk_at "kp", ?_⟩
 repeat walk_at "f"
 refine KS.one ?_
 repeat walk_at "f"
 refine CallKW.cls (make809 _) (init809 _) (fn733 _) (by first | exact room_le hroom hrm tt | exact room_le hroom hr tt | (show 1 ≤ d.room; omega)) fun A y dy nr h1 h2 hne => (c733 (c := Cx.to _ A) (by show 4 ≤ d.room - 1; omega) (hset_same _ _ _) ((hset_ne hne).trans (hset_same _ _ _)) hne).mono fun v H1 q1 => ?_
 obtain ⟨rfl, io, dio, pb, fs, Hd, k0, hio, hpb, hfs, w0⟩ := q1
 refine ⟨rfl, ?_⟩
 have k1 : HLe H Hd := fun b o e => by
  have hy : b ≠ y := fun q => by rw [q, h1] at e; cases e
  have hdy : b ≠ dy := fun q => by rw [q, h2] at e; cases e
  exact k0 _ _ ((hdel_ne hdy).trans ((hset_ne hy).trans ((hset_ne hdy).trans e)))
 have hy : Hd y = some (.inst 809 dy) := k0 _ _ ((hdel_ne (Ne.symm hne)).trans (hset_same _ _ _))
 clear k0 h1 h2
 repeat walk_at "f"
 refine SX.cons ?_
 repeat walk_at "f"
 refine SetW.shG hy w0 (by decide) (by decide : 19 ≤ 900) (es' := shI wcW true io pb fs) rfl fun H2 w2 => ?_
 repeat walk_at "f"
 refine SX.cons ?_
 repeat walk_at "f"
 refine CB.val ?_
 repeat walk_at "f"
 refine TrW.bool ?_
 walk_at "fa"
 repeat walk_at "f"
 refine SX.ret ?_
 refine TX.callT1 ?_
 refine EW.gT (by with_unfolding_all rfl) (by walk_at "gl") ?_
 refine ⟨_, rfl, ?_⟩
 repeat walk_at "f"
 rintro _ (_ | ⟨rfl, _ | _⟩)
 rw [shI_D] at w2
 have lx : Lex ⟨y, dy, io, dio, pb, fs, t⟩ Hd H2 0 (avS .sp) 1 [] := ⟨w2, hy, hio⟩
 exact list_lex (by first | exact room_le hroom hrm tt | exact room_le hroom hr tt | (show 9 ≤ d.room; omega)) hcomp' hbase' hb ht hpb hfs lx hx fun D H' kH hn => ⟨HLe.put hn (k1.trans kH), D, rfl, hset_same _ _ _⟩
end
end
end
section
-- the order
theorem lexLt_irr : ∀ a : List Int, lexLt a a = false
 | [] => rfl
 | a :: as => by show (if a == a then lexLt as as else _) = false; rw [if_pos (beq_self_eq_true a)]; exact lexLt_irr as
theorem lexLt_cons {a b : Int} {as bs : List Int} : lexLt (a :: as) (b :: bs) = true ↔ (a = b ∧ lexLt as bs = true) ∨ a < b := by
 show (if a == b then lexLt as bs else decide (a < b)) = true ↔ _
 by_cases h : a = b
 ·subst h; simp
 ·rw [if_neg (by simpa using h)]; simp [h]
theorem lexLt_trans : ∀ {a b c : List Int}, lexLt a b = true → lexLt b c = true → lexLt a c = true
 | a, [], c, h, _ => by cases a <;> cases h
 | _, _ :: _, [], _, h => by cases h
 | [], _ :: _, _ :: _, _, _ => rfl
 | a :: as, b :: bs, c :: cs, h, k => by
  rw [lexLt_cons] at h k ⊢
  rcases h with ⟨rfl, h⟩ | h <;> rcases k with ⟨rfl, k⟩ | k
  ·exact .inl ⟨rfl, lexLt_trans h k⟩
  ·exact .inr k
  ·exact .inr h
  ·exact .inr (Int.lt_trans h k)
theorem lexLt_total : ∀ {a b : List Int}, lexLt a b = false → lexLt b a = false → a = b
 | [], [], _, _ => rfl
 | [], _ :: _, h, _ => by cases h
 | _ :: _, [], _, h => by cases h
 | a :: as, b :: bs, h, k => by
  have h' : ¬ lexLt (a :: as) (b :: bs) = true := by rw [h]; decide
  have k' : ¬ lexLt (b :: bs) (a :: as) = true := by rw [k]; decide
  rw [lexLt_cons] at h' k'
  have e : a = b := by omega
  subst e
  congr 1
  refine lexLt_total ?_ ?_
  ·cases q : lexLt as bs with
   | false => rfl
   | true => exact absurd (.inl ⟨rfl, q⟩) h'
  ·cases q : lexLt bs as with
   | false => rfl
   | true => exact absurd (.inl ⟨rfl, q⟩) k'
theorem lexLt_asymm {a b : List Int} (h : lexLt a b = true) : lexLt b a = false := by
 cases q : lexLt b a with
 | false => rfl
 | true => have := lexLt_trans h q; rw [lexLt_irr] at this; cases this
noncomputable def Le (a b : List Int) : Prop := lexLt b a = false
theorem Le.rfl {a : List Int} : Le a a := lexLt_irr a
theorem Le.of_lt {a b : List Int} (h : lexLt a b = true) : Le a b := lexLt_asymm h
theorem Le.trans {a b c : List Int} (h : Le a b) (k : Le b c) : Le a c := by
 unfold Le at *
 cases q : lexLt c a with
 | false => rfl
 | true =>
  cases q2 : lexLt a b with
  | true => have := lexLt_trans q q2; rw [k] at this; cases this
  | false => have := lexLt_total q2 h; subst this; rw [k] at q; cases q
section
variable {α : Type} {new : ItA α} {xs : List (ItA α)}
noncomputable def HUp (ys : List (ItA α)) (pos : Nat) : Prop :=
 (∀ i p q, 0 < i → i ≠ pos → ys[i]? = some p → ys[(i - 1) / 2]? = some q → Le q.1 p.1) ∧
 (0 < pos → ∀ i p q, 0 < i → (i - 1) / 2 = pos → ys[i]? = some p → ys[(pos - 1) / 2]? = some q → Le q.1 p.1)
noncomputable def IsHeap (ys : List (ItA α)) : Prop := ∀ i p q, 0 < i → ys[i]? = some p → ys[(i - 1) / 2]? = some q → Le q.1 p.1
inductive SG {α : Type} (ys : List (ItA α)) (i j : Nat) (p q : ItA α) : Prop
 | eq (e : i = j) (h : q = p)
 | ne (n : i ≠ j) (h : ys[j]? = some q)
theorem set_get {ys : List (ItA α)} {i j : Nat} {p q : ItA α} (h : (ys.set i p)[j]? = some q) : SG ys i j p q := by
 rw [List.getElem?_set] at h
 split at h
 ·rename_i e
  split at h
  ·cases h; exact .eq e rfl
  ·cases h
 ·rename_i e; exact .ne e h
theorem par1 {p : Nat} : (2 * p + 1 - 1) / 2 = p := Nat.mul_div_cancel_left _ (by decide)
theorem par2 {p : Nat} : (2 * p + 2 - 1) / 2 = p := Nat.mul_add_div (by decide) p 1
theorem sd_heap : ∀ (pos : Nat) (xs : List (ItA α)), HUp (xs.set pos new) pos → pos < xs.length → IsHeap (sd new pos xs) := by
 intro pos
 induction pos using Nat.strongRecOn with
 | _ pos ih =>
  intro xs ⟨h1, h2⟩ hl
  rw [sd]
  by_cases h0 : 0 < pos
  ·rw [dif_pos h0]
   have hpl : (pos - 1) / 2 < xs.length := Nat.lt_trans (par_lt h0) hl
   rw [List.getElem?_eq_getElem hpl]
   generalize hp : xs[(pos - 1) / 2] = p
   have hp' : xs[(pos - 1) / 2]? = some p := by rw [List.getElem?_eq_getElem hpl, hp]
   have hpy : (xs.set pos new)[(pos - 1) / 2]? = some p := by rw [List.getElem?_set_ne (Nat.ne_of_gt (par_lt h0))]; exact hp'
   show IsHeap (if lexLt new.1 p.1 = true then _ else _)
   by_cases hlt : lexLt new.1 p.1 = true
   ·rw [if_pos hlt]
    refine ih _ (par_lt h0) _ ⟨?_, ?_⟩ (by rw [List.length_set]; exact hpl)
    ·intro i a b hi hne ha hb
     rcases set_get ha with ⟨e, _⟩ | ⟨_, ha⟩
     ·exact absurd e.symm hne
     rcases set_get ha with ⟨rfl, rfl⟩ | ⟨nip, ha⟩
     ·rcases set_get hb with ⟨_, rfl⟩ | ⟨q, _⟩
      ·exact .of_lt hlt
      ·exact absurd rfl q
     ·have ha' : (xs.set pos new)[i]? = some a := by rw [List.getElem?_set_ne nip]; exact ha
      rcases set_get hb with ⟨e, rfl⟩ | ⟨ne1, hb⟩
      ·exact Le.trans (.of_lt hlt) (h1 i a p hi (Ne.symm nip) ha' (by rw [← e]; exact hpy))
      ·rcases set_get hb with ⟨e, rfl⟩ | ⟨ne2, hb⟩
       ·exact h2 h0 i a b hi e.symm ha' hpy
       ·exact h1 i a b hi (Ne.symm nip) ha' (by rw [List.getElem?_set_ne ne2]; exact hb)
    ·intro hq i a b hi hpar ha hb
     rcases set_get hb with ⟨e, _⟩ | ⟨_, hb⟩
     ·exact absurd e (Nat.ne_of_gt (par_lt hq))
     rcases set_get hb with ⟨e, _⟩ | ⟨nb, hb⟩
     ·exact absurd e (Nat.ne_of_gt (Nat.lt_trans (par_lt hq) (par_lt h0)))
     have hb' : (xs.set pos new)[((pos - 1) / 2 - 1) / 2]? = some b := by rw [List.getElem?_set_ne nb]; exact hb
     have hbp : Le b.1 p.1 := h1 ((pos - 1) / 2) p b hq (Nat.ne_of_lt (par_lt h0)) hpy hb'
     rcases set_get ha with ⟨e, _⟩ | ⟨_, ha⟩
     ·exact absurd (hpar.trans e) (Nat.ne_of_lt (par_lt hi))
     rcases set_get ha with ⟨e, rfl⟩ | ⟨nip, ha⟩
     ·exact hbp
     ·exact hbp.trans (h1 i a p hi (Ne.symm nip) (by rw [List.getElem?_set_ne nip]; exact ha) (by rw [hpar]; exact hpy))
   ·rw [if_neg hlt]
    intro i a b hi ha hb
    by_cases q : i = pos
    ·subst q
     rw [hpy] at hb
     cases hb
     rcases set_get ha with ⟨_, rfl⟩ | ⟨n, _⟩
     ·show lexLt _ _ = false; simpa using hlt
     ·exact absurd rfl n
    ·exact h1 i a b hi q ha hb
  ·rw [dif_neg h0]
   intro i a b hi ha hb
   exact h1 i a b hi (fun q => h0 (q ▸ hi)) ha hb
noncomputable def Hole (xs : List (ItA α)) (pos : Nat) : Prop :=
 (∀ i p q, 0 < i → i ≠ pos → (i - 1) / 2 ≠ pos → xs[i]? = some p → xs[(i - 1) / 2]? = some q → Le q.1 p.1) ∧
 (0 < pos → ∀ i p q, 0 < i → (i - 1) / 2 = pos → xs[i]? = some p → xs[(pos - 1) / 2]? = some q → Le q.1 p.1)
theorem hole_step {pos c : Nat} {v : ItA α} (h : Hole xs pos) (hc : (c - 1) / 2 = pos) (hc0 : 0 < c) (hv : xs[c]? = some v) (hsib : ∀ i p, 0 < i → (i - 1) / 2 = pos → xs[i]? = some p → Le v.1 p.1) : Hole (xs.set pos v) c := by
 obtain ⟨h1, h2⟩ := h
 refine ⟨fun i a b hi hic hpc ha hb => ?_, fun _ i a b hi hpar ha hb => ?_⟩
 ·rcases set_get ha with ⟨rfl, rfl⟩ | ⟨ni, ha'⟩
  ·rcases set_get hb with ⟨e, _⟩ | ⟨_, hb⟩
   ·exact absurd e.symm (Nat.ne_of_lt (par_lt hi))
   ·exact h2 hi c a b hc0 hc hv hb
  ·rcases set_get hb with ⟨e, rfl⟩ | ⟨np, hb⟩
   ·exact hsib i a hi e.symm ha'
   ·exact h1 i a b hi (Ne.symm ni) (Ne.symm np) ha' hb
 ·rw [hc] at hb
  rcases set_get hb with ⟨_, rfl⟩ | ⟨n, _⟩
  ·rcases set_get ha with ⟨e, _⟩ | ⟨ni, ha⟩
   ·exact absurd (hpar ▸ par_lt hi : c < i) (by rw [← e, ← hc]; exact Nat.not_lt.mpr (Nat.le_of_lt (par_lt hc0)))
   ·exact h1 i a b hi (Ne.symm ni) (by rw [hpar]; exact Nat.ne_of_gt (hc ▸ par_lt hc0)) ha (by rw [hpar]; exact hv)
  ·exact absurd rfl n
theorem su_heap : ∀ (n pos : Nat) (xs : List (ItA α)), xs.length - pos = n → Hole xs pos → pos < xs.length → IsHeap (su new pos xs) := by
 intro n
 induction n using Nat.strongRecOn with
 | _ n ih =>
  intro pos xs hn h hl
  rw [su]
  by_cases h0 : 2 * pos + 1 < xs.length
  ·rw [dif_pos h0]
   have hc1 : xs[2 * pos + 1]? = some xs[2 * pos + 1] := List.getElem?_eq_getElem h0
   by_cases hr : 2 * pos + 2 < xs.length
   ·have hc2 : xs[2 * pos + 2]? = some xs[2 * pos + 2] := List.getElem?_eq_getElem hr
    have e2 : xs[2 * pos + 2]?.getD new = xs[2 * pos + 2] := by rw [hc2]; rfl
    rw [e2]
    by_cases hlt : lexLt (xs[2 * pos + 1].1) (xs[2 * pos + 2].1) = false
    ·rw [dif_pos ⟨hr, hlt⟩]
     refine ih _ (by rw [List.length_set, ← hn]; exact sub_lt' hr lt2) _ _ rfl (hole_step h par2 (Nat.succ_pos _) hc2 fun i p hi hp hg => ?_) (by rw [List.length_set]; exact hr)
     have : i = 2 * pos + 1 ∨ i = 2 * pos + 2 := kid hi hp
     rcases this with rfl | rfl
     ·rw [hc1] at hg; cases hg; exact hlt
     ·rw [hc2] at hg; cases hg; exact Le.rfl
    ·rw [dif_neg fun z => hlt z.2]
     refine ih _ (by rw [List.length_set, ← hn]; exact sub_lt' h0 lt1) _ _ rfl (hole_step h par1 (Nat.succ_pos _) hc1 fun i p hi hp hg => ?_) (by rw [List.length_set]; exact h0)
     have : i = 2 * pos + 1 ∨ i = 2 * pos + 2 := kid hi hp
     rcases this with rfl | rfl
     ·rw [hc1] at hg; cases hg; exact Le.rfl
     ·rw [hc2] at hg; cases hg; exact Le.of_lt (by simpa using hlt)
   ·rw [dif_neg fun z => hr z.1]
    refine ih _ (by rw [List.length_set, ← hn]; exact sub_lt' h0 lt1) _ _ rfl (hole_step h par1 (Nat.succ_pos _) hc1 fun i p hi hp hg => ?_) (by rw [List.length_set]; exact h0)
    have : i = 2 * pos + 1 ∨ i = 2 * pos + 2 := kid hi hp
    rcases this with rfl | rfl
    ·rw [hc1] at hg; cases hg; exact Le.rfl
    ·rw [List.getElem?_eq_none (Nat.le_of_not_lt hr)] at hg; cases hg
  ·rw [dif_neg h0]
   refine sd_heap pos _ ?_ (by rw [List.length_set]; exact hl)
   rw [List.set_set]
   refine ⟨fun i a b hi hip ha hb => ?_, fun _ i a b hi hpar ha hb => ?_⟩
   ·rcases set_get ha with ⟨e, _⟩ | ⟨_, ha⟩
    ·exact absurd e.symm hip
    ·have hil := (List.getElem?_eq_some_iff.mp ha).1
     rcases set_get hb with ⟨e, _⟩ | ⟨np, hb⟩
     ·exact absurd hil (bigI h0 hi e.symm)
     ·exact h.1 i a b hi hip (Ne.symm np) ha hb
   ·rcases set_get ha with ⟨e, _⟩ | ⟨_, ha⟩
    ·exact absurd (hpar.trans e) (Nat.ne_of_lt (par_lt hi))
    ·exact absurd (List.getElem?_eq_some_iff.mp ha).1 (bigI h0 hi hpar)
theorem set_swap {i j : Nat} {p : ItA α} (hij : i ≠ j) (hj : xs[j]? = some p) (hi : i < xs.length) : ((xs.set i p).set j new).Perm (xs.set i new) := by
 have hjl : j < (xs.set i new).length := by rw [List.length_set]; exact (List.getElem?_eq_some_iff.mp hj).1
 have hil : i < (xs.set i new).length := by rw [List.length_set]; exact hi
 have P := List.set_set_perm hil hjl
 have e1 : (xs.set i new)[j] = p := by rw [List.getElem_set_ne hij]; exact (List.getElem?_eq_some_iff.mp hj).2
 have e2 : (xs.set i new)[i] = new := List.getElem_set_self hil
 rw [e1, e2, List.set_set] at P
 exact P
theorem sd_perm : ∀ (pos : Nat) (xs : List (ItA α)), pos < xs.length → (sd new pos xs).Perm (xs.set pos new) := by
 intro pos
 induction pos using Nat.strongRecOn with
 | _ pos ih =>
  intro xs hl
  rw [sd]
  by_cases h0 : 0 < pos
  ·rw [dif_pos h0]
   have hpl : (pos - 1) / 2 < xs.length := Nat.lt_trans (par_lt h0) hl
   rw [List.getElem?_eq_getElem hpl]
   show (if _ then _ else _ : List (ItA α)).Perm _
   split
   ·exact (ih _ (par_lt h0) _ (by rw [List.length_set]; exact hpl)).trans (set_swap (Nat.ne_of_gt (par_lt h0)) (List.getElem?_eq_getElem hpl) hl)
   ·exact .refl _
  ·rw [dif_neg h0]
theorem su_perm : ∀ (n pos : Nat) (xs : List (ItA α)), xs.length - pos = n → pos < xs.length → (su new pos xs).Perm (xs.set pos new) := by
 intro n
 induction n using Nat.strongRecOn with
 | _ n ih =>
  intro pos xs hn hl
  rw [su]
  by_cases h0 : 2 * pos + 1 < xs.length
  ·rw [dif_pos h0]
   split
   ·rename_i h1
    rw [List.getElem?_eq_getElem h1.1]
    exact (ih _ (by rw [List.length_set, ← hn]; exact sub_lt' h1.1 lt2) _ _ rfl (by rw [List.length_set]; exact h1.1)).trans (set_swap (Nat.ne_of_lt lt2) (List.getElem?_eq_getElem h1.1) hl)
   ·exact (ih _ (by rw [List.length_set, ← hn]; exact sub_lt' h0 lt1) _ _ rfl (by rw [List.length_set]; exact h0)).trans (set_swap (Nat.ne_of_lt lt1) (List.getElem?_eq_getElem h0) hl)
  ·rw [dif_neg h0]
   have := sd_perm (new := new) pos (xs.set pos new) (by rw [List.length_set]; exact hl)
   rwa [List.set_set] at this
theorem push_heap (h : IsHeap xs) : IsHeap (sd new xs.length (xs ++ [new])) ∧ (sd new xs.length (xs ++ [new])).Perm (xs ++ [new]) := by
 have e : (xs ++ [new]).set xs.length new = xs ++ [new] := by
  rw [List.set_append_right _ _ (Nat.le_refl _), Nat.sub_self]; rfl
 refine ⟨sd_heap _ _ ?_ (by simp), by have := sd_perm (new := new) xs.length (xs ++ [new]) (by simp); rwa [e] at this⟩
 rw [e]
 refine ⟨fun i a b hi hne ha hb => ?_, fun _ i a b hi hpar ha hb => ?_⟩
 ·have hil := (List.getElem?_eq_some_iff.mp ha).1
  rw [List.length_append, List.length_singleton] at hil
  replace hil := Nat.lt_of_le_of_ne (Nat.le_of_lt_succ hil) hne
  rw [List.getElem?_append_left hil] at ha
  rw [List.getElem?_append_left (par_lt' hil)] at hb
  exact h i a b hi ha hb
 ·have hil := (List.getElem?_eq_some_iff.mp ha).1
  rw [List.length_append, List.length_singleton] at hil
  exact absurd (par_lt hi) (Nat.not_lt.mpr (by rw [hpar]; exact Nat.le_of_lt_succ hil))
theorem heap_top (h : IsHeap xs) {t : ItA α} (ht : xs[0]? = some t) : ∀ (i : Nat) (p : ItA α), xs[i]? = some p → Le t.1 p.1 := by
 intro i
 induction i using Nat.strongRecOn with
 | _ i ih =>
  intro p hp
  by_cases h0 : 0 < i
  ·have hil := (List.getElem?_eq_some_iff.mp hp).1
   have hq : xs[(i - 1) / 2]? = some xs[(i - 1) / 2] := List.getElem?_eq_getElem (par_lt' hil)
   exact (ih _ (par_lt h0) _ hq).trans (h i p _ h0 hp hq)
  ·have : i = 0 := Nat.eq_zero_of_not_pos h0
   subst this
   rw [ht] at hp; cases hp; exact Le.rfl
theorem pop_heap {last : ItA α} (h : IsHeap xs) (hl : xs.getLast? = some last) : IsHeap (popL xs.dropLast last) ∧ (popR xs.dropLast last :: popL xs.dropLast last).Perm xs ∧ ∀ p ∈ xs, Le (popR xs.dropLast last).1 p.1 := by
 obtain ⟨ys, rfl⟩ : ∃ ys, xs = ys ++ [last] := ⟨xs.dropLast, by
  have hne : xs ≠ [] := fun q => by rw [q] at hl; cases hl
  have : xs.getLast hne = last := by rw [List.getLast?_eq_some_getLast hne] at hl; exact Option.some.inj hl
  rw [← this]; exact (List.dropLast_concat_getLast hne).symm⟩
 rw [List.dropLast_concat]
 have top : ∀ t, (ys ++ [last])[0]? = some t → ∀ p ∈ ys ++ [last], Le t.1 p.1 := fun t ht p hp => by
  obtain ⟨i, hi⟩ := List.mem_iff_getElem?.mp hp
  exact heap_top h ht i p hi
 cases ys with
 | nil => exact ⟨(fun i a b _ ha _ => by simp [popL] at ha), .refl _, top _ rfl⟩
 | cons y ys =>
  refine ⟨?_, ?_, top y rfl⟩
  ·show IsHeap (su last 0 ((y :: ys).set 0 last))
   refine su_heap _ 0 _ rfl ⟨fun i a b hi _ hp ha hb => ?_, (fun q => absurd q (Nat.lt_irrefl 0))⟩ (by simp)
   rcases set_get ha with ⟨e, _⟩ | ⟨_, ha⟩
   ·exact absurd e (Nat.ne_of_lt hi)
   rcases set_get hb with ⟨e, _⟩ | ⟨_, hb⟩
   ·exact absurd e.symm hp
   have hil := (List.getElem?_eq_some_iff.mp ha).1
   exact h i a b hi (by rw [List.getElem?_append_left hil]; exact ha) (by rw [List.getElem?_append_left (par_lt' hil)]; exact hb)
  ·show (y :: su last 0 ((y :: ys).set 0 last)).Perm _
   have := su_perm (new := last) _ 0 ((y :: ys).set 0 last) rfl (by simp)
   rw [List.set_set] at this
   have e : (y :: ys).set 0 last = last :: ys := rfl
   rw [e] at this ⊢
   exact (this.cons y).trans ((List.perm_append_comm (l₁ := [last]) (l₂ := ys)).cons y)
end
end
section
noncomputable section
inductive Bel : List Int → List Int → Prop
 | here {a b : Int} {as bs : List Int} (h : a < b) : Bel (a :: as) (b :: bs)
 | next {a : Int} {as bs : List Int} (h : Bel as bs) : Bel (a :: as) (a :: bs)
theorem Bel.lt {a b : List Int} (h : Bel a b) : lexLt a b = true := by
 induction h with
 | here h => exact lexLt_cons.mpr (.inr h)
 | next _ ih => exact lexLt_cons.mpr (.inl ⟨rfl, ih⟩)
theorem Bel.extL {a b : List Int} (h : Bel a b) (e : List Int) : Bel (a ++ e) b := by
 induction h with
 | here h => exact .here h
 | next _ ih => exact .next ih
theorem Bel.pre {a b : List Int} (h : Bel a b) : ∀ p : List Int, Bel (p ++ a) (p ++ b)
 | [] => h
 | _ :: p => .next (h.pre p)
noncomputable abbrev NB (a b : Nd) : Prop := Bel a.key b.key
noncomputable def kidsOf (rows : List Row) (r : Row) : List Nd := imap agentNd r.agents ++ (heldD r ++ (heldC r ++ (imap (ruleNd rows) r.rules ++ heldA r)))
theorem held_perm (rows : List Row) (r : Row) : (held rows r).Perm (kidsOf rows r) := by
 unfold held kidsOf
 generalize heldA r = A
 generalize imap (ruleNd rows) r.rules = U
 generalize heldC r = C
 generalize heldD r = D
 generalize imap agentNd r.agents = G
 refine List.perm_append_comm.trans (List.Perm.append_left G ?_)
 refine List.perm_append_comm.trans (List.Perm.append_left D ?_)
 refine List.perm_append_comm.trans (List.Perm.append_left C ?_)
 exact List.perm_append_comm
theorem imapF_mem {α β : Type} {f : Nat → α → β}  {l : List α} {i : Nat} {b : β} (h : b ∈ imapF f i l) : ∃ j a, i ≤ j ∧ a ∈ l ∧ b = f j a := by
 induction l generalizing i with
 | nil => cases h
 | cons a l ih =>
  rcases List.mem_cons.mp h with rfl | h
  ·exact ⟨i, a, Nat.le_refl _, .head _, rfl⟩
  ·obtain ⟨j, a', h1, h2, h3⟩ := ih h
   exact ⟨j, a', by omega, .tail _ h2, h3⟩
theorem imapF_pair {α : Type} {f : Nat → α → Nd} {z : Int} (hf : ∀ j a, (f j a).key = [z, (j : Int)]) : ∀ (l : List α) (i : Nat), (imapF f i l).Pairwise NB
 | [], _ => .nil
 | a :: l, i => List.pairwise_cons.mpr ⟨fun b hb => by
   obtain ⟨j, a', hj, _, rfl⟩ := imapF_mem hb
   show Bel _ _
   rw [hf, hf]
   exact .next (.here (by omega)), imapF_pair hf l (i + 1)⟩
theorem ruleNd_key (rows : List Row) (j : Nat) (p : Nat × W × W) : (ruleNd rows j p).key = [3, (j : Int)] := by unfold ruleNd; split <;> rfl
theorem kids_keys {rows : List Row} {r : Row} {nd : Nd} : (nd ∈ imap agentNd r.agents → ∃ j : Int, nd.key = [0, j]) ∧ (nd ∈ heldD r → nd.key = [1]) ∧ (nd ∈ heldC r → nd.key = [2]) ∧ (nd ∈ imap (ruleNd rows) r.rules → ∃ j : Int, nd.key = [3, j]) ∧ (nd ∈ heldA r → nd.key = [3]) := by
 refine ⟨fun h => ?_, fun h => ?_, fun h => ?_, fun h => ?_, fun h => ?_⟩
 ·obtain ⟨j, a, _, _, rfl⟩ := imapF_mem h; exact ⟨j, rfl⟩
 ·unfold heldD at h; split at h
  ·rw [List.mem_singleton.mp h]
  ·cases h
 ·unfold heldC at h; split at h
  ·rw [List.mem_singleton.mp h]
  ·cases h
 ·obtain ⟨j, a, _, _, rfl⟩ := imapF_mem h; exact ⟨j, ruleNd_key ..⟩
 ·unfold heldA at h; split at h
  ·rw [List.mem_singleton.mp h]
  ·cases h
theorem kids_len2 {rows : List Row} {r : Row} {nd : Nd} (h : nd ∈ kidsOf rows r) : nd.key.length ≤ 2 := by
 obtain ⟨k1, k2, k3, k4, k5⟩ := kids_keys (rows := rows) (r := r) (nd := nd)
 unfold kidsOf at h
 simp only [List.mem_append] at h
 rcases h with h | h | h | h | h
 ·obtain ⟨j, e⟩ := k1 h; rw [e]; exact Nat.le_refl _
 ·rw [k2 h]; decide
 ·rw [k3 h]; decide
 ·obtain ⟨j, e⟩ := k4 h; rw [e]; exact Nat.le_refl _
 ·rw [k5 h]; decide
theorem pw_le1 {l : List Nd} (h : l.length ≤ 1) : l.Pairwise NB := by
 cases l with
 | nil => exact .nil
 | cons a t =>
  cases t with
  | nil => exact List.pairwise_singleton ..
  | cons b t => exact absurd (Nat.le_of_succ_le_succ h) (Nat.not_succ_le_zero _)
theorem kids_pair (rows : List Row) (r : Row) : (kidsOf rows r).Pairwise NB := by
 have kk := fun nd => kids_keys (rows := rows) (r := r) (nd := nd)
 have lD : (heldD r).length ≤ 1 := by unfold heldD; split <;> simp
 have lC : (heldC r).length ≤ 1 := by unfold heldC; split <;> simp
 unfold kidsOf
 refine List.pairwise_append.mpr ⟨imapF_pair (fun _ _ => rfl) _ _, List.pairwise_append.mpr ⟨pw_le1 lD, List.pairwise_append.mpr ⟨pw_le1 lC, List.pairwise_append.mpr ⟨imapF_pair (fun j p => ruleNd_key rows j p) _ _, ?_, ?_⟩, ?_⟩, ?_⟩, ?_⟩
 ·exact pw_le1 (by unfold heldA; split <;> simp)
 ·intro a ha b hb
  unfold heldA at hb
  split at hb
  ·rename_i q
   rw [List.isEmpty_iff.mp q] at ha
   cases ha
  ·cases hb
 ·intro a ha b hb
  show Bel _ _
  rw [(kk a).2.2.1 ha]
  rcases List.mem_append.mp hb with hb | hb
  ·obtain ⟨j, e⟩ := (kk b).2.2.2.1 hb; rw [e]; exact .here (by decide)
  ·rw [(kk b).2.2.2.2 hb]; exact .here (by decide)
 ·intro a ha b hb
  show Bel _ _
  rw [(kk a).2.1 ha]
  rcases List.mem_append.mp hb with hb | hb
  ·rw [(kk b).2.2.1 hb]; exact .here (by decide)
  rcases List.mem_append.mp hb with hb | hb
  ·obtain ⟨j, e⟩ := (kk b).2.2.2.1 hb; rw [e]; exact .here (by decide)
  ·rw [(kk b).2.2.2.2 hb]; exact .here (by decide)
 ·intro a ha b hb
  show Bel _ _
  obtain ⟨i, e⟩ := (kk a).1 ha
  rw [e]
  rcases List.mem_append.mp hb with hb | hb
  ·rw [(kk b).2.1 hb]; exact .here (by decide)
  rcases List.mem_append.mp hb with hb | hb
  ·rw [(kk b).2.2.1 hb]; exact .here (by decide)
  rcases List.mem_append.mp hb with hb | hb
  ·obtain ⟨j, e⟩ := (kk b).2.2.2.1 hb; rw [e]; exact .here (by decide)
  ·rw [(kk b).2.2.2.2 hb]; exact .here (by decide)
noncomputable def lvN : Nat → List Row → Nd → List (W × List W)
 | 0, _, nd => [(nd.line, nd.words)]
 | d + 1, rows, nd => match nd.row with
  | none => [(nd.line, nd.words)]
  | some r => if r.agents.isEmpty then [(nd.line, nd.words)] else (kidsOf rows r).flatMap (lvN d rows)
noncomputable def Dp : Nat → List Row → Nd → Prop
 | 0, _, nd => nd.row = none
 | d + 1, rows, nd => ∀ r, nd.row = some r → ∀ k ∈ kidsOf rows r, Dp d rows k
theorem lvN_ext (d : Nat) (rows : List Row) (k : List Int) (nd : Nd) : lvN d rows (nd.ext k) = lvN d rows nd := by cases d <;> rfl
theorem Dp_ext (d : Nat) (rows : List Row) (k : List Int) (nd : Nd) (h : Dp d rows nd) : Dp d rows (nd.ext k) := by cases d <;> exact h
theorem lvN_leaf {d : Nat} {rows : List Row} {nd : Nd} (h : nd.leaf = true) : lvN d rows nd = [(nd.line, nd.words)] := by
 cases d with
 | zero => rfl
 | succ d =>
  unfold lvN
  unfold Nd.leaf at h
  cases q : nd.row with
  | none => rfl
  | some r => rw [q] at h; exact if_pos h
theorem lvN_node {d : Nat} {rows : List Row} {nd : Nd} {r : Row} (hr : nd.row = some r) (h : nd.leaf = false) : lvN (d + 1) rows nd = (kidsOf rows r).flatMap (lvN d rows) := by
 unfold lvN
 unfold Nd.leaf at h
 rw [hr] at h ⊢
 exact if_neg (Bool.eq_false_iff.mp h)
theorem lvN_pos : ∀ (d : Nat) (rows : List Row) (nd : Nd), 1 ≤ (lvN d rows nd).length
 | 0, _, _ => Nat.le_refl _
 | d + 1, rows, nd => by
  cases q : nd.leaf with
  | true => rw [lvN_leaf q]; exact Nat.le_refl _
  | false =>
   cases q2 : nd.row with
   | none => unfold Nd.leaf at q; rw [q2] at q; cases q
   | some r =>
    rw [lvN_node q2 q]
    have hne : r.agents ≠ [] := fun e => by unfold Nd.leaf at q; rw [q2] at q; simp [e] at q
    obtain ⟨a, l, e⟩ := List.exists_cons_of_ne_nil hne
    have : kidsOf rows r = agentNd 0 a :: (imapF agentNd 1 l ++ (heldD r ++ (heldC r ++ (imap (ruleNd rows) r.rules ++ heldA r)))) := by unfold kidsOf; rw [e]; rfl
    rw [this, List.flatMap_cons, List.length_append]
    have := lvN_pos d rows (agentNd 0 a)
    omega
theorem flat_len {d : Nat} {rows : List Row} : ∀ ks : List Nd, ks.length ≤ (ks.flatMap (lvN d rows)).length
 | [] => Nat.le_refl _
 | k :: ks => by
  rw [List.flatMap_cons, List.length_append, List.length_cons]
  have := lvN_pos d rows k
  have := flat_len (d := d) (rows := rows) ks
  omega
noncomputable def itm (nd : Nd) : ItA Nd := (nd.key, nd)
theorem keys_itm (T : List Nd) : keys (T.map itm) = T.map (·.key) := by unfold keys; rw [List.map_map]; rfl
theorem pair_nodup {T : List Nd} (h : T.Pairwise NB) : (T.map (·.key)).Nodup := by
 unfold List.Nodup
 rw [List.pairwise_map]
 exact h.imp fun hab e => by have := Bel.lt hab; rw [e, lexLt_irr] at this; cases this
theorem push_all : ∀ (ks : List Nd) (T : List Nd) (h : List (ItA Nd)), IsHeap h → h.Perm (T.map itm) → ((T ++ ks).map (·.key)).Nodup → T.length + ks.length ≤ 90000 → (∀ k ∈ ks, k.key.length ≤ 1000) →
  ∃ h', pushL h ks = some h' ∧ IsHeap h' ∧ h'.Perm ((T ++ ks).map itm)
 | [], T, h, hh, hp, _, _, _ => ⟨h, rfl, hh, by rw [List.append_nil]; exact hp⟩
 | k :: ks, T, h, hh, hp, hnd, hl, hk => by
  have hlen : h.length = T.length := by rw [hp.length_eq, List.length_map]
  have e1 : T ++ k :: ks = (T ++ [k]) ++ ks := by simp
  have hnd1 : (keys (h ++ [(k.key, k)])).Nodup := by
   have : (h ++ [(k.key, k)]).Perm ((T ++ [k]).map itm) := by rw [List.map_append]; exact hp.append_right _
   have h2 := (this.map (·.1)).nodup_iff
   refine h2.mpr ?_
   have : ((T ++ [k]).map itm).map (·.1) = (T ++ [k]).map (·.key) := keys_itm _
   rw [this]
   rw [e1, List.map_append] at hnd
   exact (List.nodup_append.mp hnd).1
  have hs : pushS h k = some (sd (k.key, k) h.length (h ++ [(k.key, k)])) := if_pos ⟨hnd1, by rw [List.length_cons] at hl; omega, hk k (.head _)⟩
  obtain ⟨g1, g2⟩ := push_heap (new := (k.key, k)) hh
  obtain ⟨h', e, i1, i2⟩ := push_all ks (T ++ [k]) _ g1 (g2.trans (by rw [List.map_append]; exact hp.append_right _)) (by rw [← e1]; exact hnd) (by rw [List.length_append, List.length_singleton]; rw [List.length_cons] at hl; omega) fun x hx => hk x (.tail _ hx)
  refine ⟨h', ?_, i1, by rw [e1]; exact i2⟩
  unfold pushL
  rw [hs]
  exact e
section
variable {rows : List Row} {R : List (W × List W)}
theorem run_list {d : Nat} (ih : ∀ (nd : Nd) (T : List Nd) (out : List (W × List W)) (h : List (ItA Nd)), Dp d rows nd → nd.key.length + 2 * d ≤ 1000 → IsHeap h → h.Perm ((nd :: T).map itm) → (nd :: T).Pairwise NB → out.length + (lvN d rows nd).length + T.length ≤ 90000 →
   (∀ h', IsHeap h' → h'.Perm (T.map itm) → ∃ N, runH rows N h' (out ++ lvN d rows nd) = some R) → ∃ N, runH rows N h out = some R) :
  ∀ (ks T : List Nd) (out : List (W × List W)) (h : List (ItA Nd)), (∀ k ∈ ks, Dp d rows k ∧ k.key.length + 2 * d ≤ 1000) → IsHeap h → h.Perm ((ks ++ T).map itm) → (ks ++ T).Pairwise NB → out.length + (ks.flatMap (lvN d rows)).length + T.length ≤ 90000 →
   (∀ h', IsHeap h' → h'.Perm (T.map itm) → ∃ N, runH rows N h' (out ++ ks.flatMap (lvN d rows)) = some R) → ∃ N, runH rows N h out = some R := by
 intro ks
 induction ks with
 | nil => exact fun T out h _ hh hp _ _ k => k h hh hp |>.imp fun N e => by simpa using e
 | cons nd ks IH =>
  intro T out h hk hh hp hw hb k
  rw [List.flatMap_cons, List.length_append] at hb
  have := flat_len (d := d) (rows := rows) ks
  refine ih nd (ks ++ T) out h (hk nd (.head _)).1 (hk nd (.head _)).2 hh hp hw (by rw [List.length_append]; omega) fun h' hh' hp' => ?_
  refine IH T (out ++ lvN d rows nd) h' (fun x hx => hk x (.tail _ hx)) hh' hp' (List.pairwise_cons.mp hw).2 (by rw [List.length_append]; omega) fun h2 hh2 hp2 => ?_
  obtain ⟨N, e⟩ := k h2 hh2 hp2
  exact ⟨N, by rw [List.append_assoc]; rwa [List.flatMap_cons] at e⟩
theorem run_pop {nd : Nd} {T : List Nd} {h : List (ItA Nd)} (hh : IsHeap h) (hp : h.Perm ((nd :: T).map itm)) (hw : (nd :: T).Pairwise NB) (hb : T.length + 1 ≤ 90000) :
  ∃ last, h.getLast? = some last ∧ popR h.dropLast last = itm nd ∧ IsHeap (popL h.dropLast last) ∧ (popL h.dropLast last).Perm (T.map itm) ∧ (keys h).Nodup ∧ h.length ≤ 90000 := by
 have hne : h ≠ [] := fun e => by rw [e] at hp; have := hp.length_eq; simp at this
 refine ⟨_, List.getLast?_eq_some_getLast hne, ?_⟩
 obtain ⟨q1, q2, q3⟩ := pop_heap hh (List.getLast?_eq_some_getLast hne)
 generalize h.getLast hne = last at *
 have top : popR h.dropLast last = itm nd := by
  have hm : popR h.dropLast last ∈ (nd :: T).map itm := hp.mem_iff.mp (q2.mem_iff.mp (.head _))
  obtain ⟨x, hx, e⟩ := List.mem_map.mp hm
  rcases List.mem_cons.mp hx with rfl | hx
  ·exact e.symm
  ·have b := ((List.pairwise_cons.mp hw).1 x hx).lt
   have l := q3 (itm nd) (hp.mem_iff.mpr (.head _))
   rw [← e] at l
   have : lexLt nd.key x.key = false := l
   rw [b] at this; cases this
 rw [top] at q2
 have hnd : (keys h).Nodup := by
  have P : (keys h).Perm (keys ((nd :: T).map itm)) := hp.map _
  rw [P.nodup_iff, keys_itm]
  exact pair_nodup hw
 exact ⟨top, q1, List.Perm.cons_inv (q2.trans hp), hnd, by rw [hp.length_eq, List.length_map, List.length_cons]; exact hb⟩
theorem run_leaf {d : Nat} {nd : Nd} {T : List Nd} {out : List (W × List W)} {h : List (ItA Nd)} (hlf : nd.leaf = true) (hh : IsHeap h) (hp : h.Perm ((nd :: T).map itm)) (hw : (nd :: T).Pairwise NB) (hb : out.length + (lvN d rows nd).length + T.length ≤ 90000)
   (k : ∀ h', IsHeap h' → h'.Perm (T.map itm) → ∃ N, runH rows N h' (out ++ lvN d rows nd) = some R) : ∃ N, runH rows N h out = some R := by
 rw [lvN_leaf hlf] at hb k
 obtain ⟨last, hl, top, q1, hrest, hnd, hlen⟩ := run_pop hh hp hw (by simp at hb; omega)
 obtain ⟨N, e⟩ := k _ q1 hrest
 refine ⟨N + 1, ?_⟩
 unfold runH
 rw [hl]
 dsimp only
 rw [if_pos ⟨hnd, hlen, by omega⟩, top, if_pos (show (itm nd).2.leaf = true from hlf)]
 exact e
theorem run_nd : ∀ (d : Nat) (nd : Nd) (T : List Nd) (out : List (W × List W)) (h : List (ItA Nd)), Dp d rows nd → nd.key.length + 2 * d ≤ 1000 → IsHeap h → h.Perm ((nd :: T).map itm) → (nd :: T).Pairwise NB → out.length + (lvN d rows nd).length + T.length ≤ 90000 →
   (∀ h', IsHeap h' → h'.Perm (T.map itm) → ∃ N, runH rows N h' (out ++ lvN d rows nd) = some R) → ∃ N, runH rows N h out = some R := by
 intro d
 induction d with
 | zero => exact fun nd T out h hdp hkl hh hp hw hb k => run_leaf (d := 0) (by unfold Nd.leaf; rw [show nd.row = none from hdp]) hh hp hw hb k
 | succ d IH =>
  intro nd T out h hdp hkl hh hp hw hb k
  cases hlf : nd.leaf with
  | true => exact run_leaf (d := d + 1) hlf hh hp hw hb k
  | false =>
   cases hrow : nd.row with
   | none => unfold Nd.leaf at hlf; rw [hrow] at hlf; cases hlf
   | some r =>
    rw [lvN_node hrow hlf] at hb k
    have hfl := flat_len (d := d) (rows := rows) (kidsOf rows r)
    have hkp := lvN_pos (d + 1) rows nd
    rw [lvN_node hrow hlf] at hkp
    obtain ⟨last, hl, top, q1, hrest, hnd, hlen⟩ := run_pop hh hp hw (by omega)
    have hkids : ((kidsOf rows r).map (Nd.ext nd.key)).flatMap (lvN d rows) = (kidsOf rows r).flatMap (lvN d rows) := by
     rw [List.flatMap_map]
     congr 1
     exact funext fun x => lvN_ext ..
    have hw2 : ((kidsOf rows r).map (Nd.ext nd.key) ++ T).Pairwise NB := by
     refine List.pairwise_append.mpr ⟨?_, (List.pairwise_cons.mp hw).2, fun a ha b hb => ?_⟩
     ·rw [List.pairwise_map]
      exact (kids_pair rows r).imp fun hab => hab.pre nd.key
     ·obtain ⟨x, _, rfl⟩ := List.mem_map.mp ha
      exact ((List.pairwise_cons.mp hw).1 b hb).extL _
    have hperm : (T ++ (held rows r).map (Nd.ext nd.key)).Perm ((kidsOf rows r).map (Nd.ext nd.key) ++ T) := List.perm_append_comm.trans (((held_perm rows r).map _).append_right T)
    obtain ⟨h', e1, i1, i2⟩ := push_all ((held rows r).map (Nd.ext nd.key)) T _ q1 hrest (((hperm.map (·.key)).nodup_iff).mpr (pair_nodup hw2)) (by rw [List.length_map, (held_perm rows r).length_eq]; omega) (fun x hx => by
     obtain ⟨y, hy, rfl⟩ := List.mem_map.mp hx
     have := kids_len2 ((held_perm rows r).mem_iff.mp hy)
     show (nd.key ++ y.key).length ≤ 1000
     rw [List.length_append]; omega)
    obtain ⟨N, e⟩ := run_list (d := d) IH ((kidsOf rows r).map (Nd.ext nd.key)) T out h' (fun x hx => by
     obtain ⟨y, hy, rfl⟩ := List.mem_map.mp hx
     have := kids_len2 hy
     refine ⟨Dp_ext _ _ _ _ (hdp r hrow y hy), ?_⟩
     show (nd.key ++ y.key).length + 2 * d ≤ 1000
     rw [List.length_append]; omega) i1 (i2.trans (hperm.map itm)) hw2 (by rw [hkids]; omega) (by rw [hkids]; exact k)
    refine ⟨N + 1, ?_⟩
    unfold runH
    rw [hl]
    dsimp only
    rw [if_pos ⟨hnd, hlen, by omega⟩, top, if_neg (by rw [show (itm nd).2.leaf = false from hlf]; decide)]
    have e2 : heldOf rows (itm nd).2 = (held rows r).map (Nd.ext nd.key) := by
     unfold heldOf
     rw [show (itm nd).2.row = some r from hrow]
     rfl
    rw [e2, e1]
    exact e
theorem run_root {d : Nat} {w : Row} (hd : Dp d rows ⟨[], some w, lit "", []⟩) (hdl : 2 * d ≤ 1000) (hl : (lvN d rows ⟨[], some w, lit "", []⟩).length ≤ 90000) : ∃ N, runH rows N [([], ⟨[], some w, lit "", []⟩)] [] = some (lvN d rows ⟨[], some w, lit "", []⟩) := by
 refine run_nd d _ [] [] _ hd (by simpa using hdl) (fun i a b hi ha hb => ?_) (.refl _) (List.pairwise_singleton ..) (by simpa using hl) fun h' _ hp => ⟨1, ?_⟩
 ·have := (List.getElem?_eq_some_iff.mp ha).1
  simp at this
  omega
 ·rw [List.Perm.eq_nil hp]
  rfl
end
end
end
section
noncomputable section
noncomputable def LEnd (rest : W) (toks : List W) : Prop := (rest = [] ∧ toks = []) ∨ ∃ r, rest = 10 :: r ∧ Lxs .sp r toks
noncomputable def LCont (rest : W) (toks : List W) : Prop := LEnd rest toks ∨ ∃ r, rest = 32 :: r ∧ Lxs .sp r toks
theorem lxs_non : Lxs .non [] [] := .stop (fun _ h => nomatch h) .non
theorem lxs_sp0 : Lxs .sp [] [] := .stop (fun _ h => nomatch h) .spEnd
theorem lxs_ws {n : Nat} {r : W} {toks : List W} (hn : n ∈ [32, 9, 13, 10]) (h : Lxs .sp r toks) : Lxs .sp (n :: r) toks := by
 cases h with
 | stop hs h => exact .stop hs (.spWs hn h)
 | tok hs h hq k => exact .tok hs (.spWs hn h) hq k
theorem lxs_com {r : W} {toks : List W} (h : Lxs .sp (dropLine r) toks) : Lxs .sp (35 :: r) toks := by
 cases h with
 | stop hs h => exact .stop hs (.spCom h)
 | tok hs h hq k => exact .tok hs (.spCom h) hq k
theorem LEnd.sp {rest : W} {toks : List W} (h : LEnd rest toks) : Lxs .sp rest toks := by
 rcases h with ⟨rfl, rfl⟩ | ⟨r, rfl, h⟩
 ·exact lxs_sp0
 ·exact lxs_ws (by decide) h
theorem a_end {tok rest : W} {q : Bool} {toks : List W} (ht : tok ≠ [] ∨ q = true) (h : LCont rest toks) : ∃ s r, Lx .a tok q rest (tok, q, s, r) ∧ Lxs s r toks := by
 rcases h with (⟨rfl, rfl⟩ | ⟨r, rfl, h⟩) | ⟨r, rfl, h⟩
 ·exact ⟨_, _, .aEnd, lxs_non⟩
 ·exact ⟨_, _, .aWs (by decide) ht, h⟩
 ·exact ⟨_, _, .aWs (by decide) ht, h⟩
theorem lx_plain {rest : W} {q : Bool} {res : W × Bool × LS × W} : ∀ (w tok : W), (∀ c ∈ w, c ∉ spW) → Lx .a (tok ++ w) q rest res → Lx .a tok q (w ++ rest) res
 | [], tok, _, h => by simpa using h
 | c :: w, tok, hw, h => .aW (hw c (.head _)) (lx_plain w (tok ++ [c]) (fun x hx => hw x (.tail _ hx)) (by simpa using h))
theorem lx_word {w rest : W} {toks : List W} (hne : w ≠ []) (hw : ∀ c ∈ w, c ∉ spW) (h : LCont rest toks) : Lxs .sp (w ++ rest) (w :: toks) := by
 obtain ⟨s, r, h1, h2⟩ := a_end (tok := w) (q := false) (.inl hne) h
 cases w with
 | nil => exact absurd rfl hne
 | cons c w => exact .tok (fun _ h => nomatch h) (.spW (hw c (.head _)) (lx_plain w [c] (fun x hx => hw x (.tail _ hx)) (by simpa using h1))) (fun h => nomatch h.2) h2
noncomputable def zW : W := [39, 34, 39, 34, 39]
theorem lx_inq {rest : W} {res : W × Bool × LS × W} : ∀ (w tok : W) (q : Bool), Lx .a (tok ++ w) true rest res → Lx (.q 39) tok q (repW zW w ++ 39 :: rest) res
 | [], tok, q, h => .qEnd (by simpa using h)
 | c :: w, tok, q, h => by
  have ih := lx_inq (rest := rest) (res := res) w (tok ++ [c]) true (by simpa using h)
  by_cases e : c = 39
  ·subst e
   exact .qEnd (.aQ (by decide) (.qIn (by decide) (fun z => absurd z (by decide)) (.qEnd (.aQ (by decide) ih))))
  ·have e2 : repW zW (c :: w) = c :: repW zW w := by unfold repW; rw [List.flatMap_cons, if_neg e]; rfl
   rw [e2]
   exact .qIn e (fun _ => rfl) ih
theorem lx_quoted {w rest : W} {toks : List W} (h : LCont rest toks) : Lxs .sp (39 :: (repW zW w ++ 39 :: rest)) (w :: toks) := by
 obtain ⟨s, r, h1, h2⟩ := a_end (tok := w) (q := true) (.inr rfl) h
 exact Lxs.tok (q := true) (fun _ h => nomatch h) (.spQ (by decide) (lx_inq w [] false h1)) (fun h => nomatch h.1) h2
theorem safe_sp : ∀ c : Nat, safeC c = true → c ∉ spW := by
 have key : ∀ c ∈ spW, safeC c = false := by decide +kernel
 intro c h hm
 rw [key c hm] at h
 cases h
theorem lx_quote {w rest : W} {toks : List W} (h : LCont rest toks) : Lxs .sp (quoteW w ++ rest) (w :: toks) := by
 unfold quoteW
 by_cases hw : w = []
 ·rw [if_pos hw, hw]
  exact lx_quoted (w := []) h
 ·rw [if_neg hw]
  by_cases hs : w.all safeC = true
  ·rw [if_pos hs]
   exact lx_word hw (fun c hc => safe_sp c (List.all_eq_true.mp hs c hc)) h
  ·rw [if_neg hs]
   have e : lit "'" ++ repW (lit "'\"'\"'") w ++ lit "'" ++ rest = 39 :: (repW zW w ++ 39 :: rest) := by
    show [39] ++ repW zW w ++ [39] ++ rest = _
    simp
   rw [e]
   exact lx_quoted h
theorem com_cont {rest : W} {toks : List W} (h : LEnd rest toks) : LCont (lit " #'" ++ rest) toks := by
 refine .inr ⟨35 :: 39 :: rest, rfl, lxs_com ?_⟩
 rcases h with ⟨rfl, rfl⟩ | ⟨r, rfl, h⟩
 ·exact lxs_sp0
 ·exact h
noncomputable def LeafOk (l : W × List W) : Prop := ∀ rest toks, LEnd rest toks → Lxs .sp (l.1 ++ rest) (l.2 ++ toks)
noncomputable def TextOk (t w : W) : Prop := t = quoteW w ∨ t = quoteW w ++ lit " #'"
noncomputable def PairOk (p : W × W) : Prop := TextOk p.1 p.2 ∨ (p.1 = p.2 ∧ ∀ c ∈ p.2, c ∉ spW)
theorem lx_text {t w rest : W} {toks : List W} (ht : TextOk t w) (h : LEnd rest toks) : Lxs .sp (t ++ rest) (w :: toks) := by
 rcases ht with rfl | rfl
 ·exact lx_quote (.inl h)
 ·rw [List.append_assoc]; exact lx_quote (com_cont h)
theorem lx_key {k rest : W} {toks : List W} (hne : k ≠ []) (hk : ∀ c ∈ k, c ∉ spW) (h : Lxs .sp rest toks) : Lxs .sp (k ++ 32 :: rest) (k :: toks) := lx_word hne hk (.inr ⟨rest, rfl, h⟩)
theorem leaf_nil : LeafOk ([], []) := fun rest toks h => h.sp
theorem leaf_word {w : W} (hne : w ≠ []) (hw : ∀ c ∈ w, c ∉ spW) : LeafOk (w, [w]) := fun rest toks h => lx_word hne hw (.inl h)
theorem leaf_two {k w : W} (hk0 : k ≠ []) (hk : ∀ c ∈ k, c ∉ spW) (hne : w ≠ []) (hw : ∀ c ∈ w, c ∉ spW) : LeafOk (k ++ 32 :: w, [k, w]) := fun rest toks h => by
 show Lxs .sp ((k ++ 32 :: w) ++ rest) (k :: w :: toks)
 rw [List.append_assoc]
 exact lx_key hk0 hk (lx_word hne hw (.inl h))
theorem leaf_text {k t w : W} (hk0 : k ≠ []) (hk : ∀ c ∈ k, c ∉ spW) (ht : TextOk t w) : LeafOk (k ++ 32 :: t, [k, w]) := fun rest toks h => by
 show Lxs .sp ((k ++ 32 :: t) ++ rest) (k :: w :: toks)
 rw [List.append_assoc]
 exact lx_key hk0 hk (lx_text ht h)
theorem num_ok : ∀ n : Nat, n < 1000 → numW (n : Int) ≠ [] ∧ (numW (n : Int)).all (fun c => !spW.contains c) = true := by decide +kernel
theorem num_sp {i : Int} (h0 : 0 ≤ i) (h1 : i < 1000) : numW i ≠ [] ∧ ∀ c ∈ numW i, c ∉ spW := by
 have := num_ok i.toNat (by omega)
 rw [Int.toNat_of_nonneg h0] at this
 exact ⟨this.1, fun c hc hm => by have := List.all_eq_true.mp this.2 c hc; simp at this; exact this hm⟩
theorem quoteW_ne (w : W) : quoteW w ≠ [] := by
 unfold quoteW
 split
 ·decide
 ·rename_i h
  split
  ·exact h
  ·show [39] ++ repW zW w ++ [39] ≠ []
   simp
theorem leaf_agent {k : Nat} {p : W × W} (h : PairOk p) : LeafOk ((agentNd k p).line, (agentNd k p).words) := by
 have hk : ∀ c ∈ lit "User-agent:", c ∉ spW := by decide
 have e : ∀ t : W, lit "User-agent: " ++ t = lit "User-agent:" ++ 32 :: t := fun t => rfl
 show LeafOk (lit "User-agent: " ++ p.1, if p.1 != lit "" then [lit "User-agent:", p.2] else [lit "User-agent:"])
 by_cases h0 : p.1 = []
 ·have : (p.1 != lit "") = false := by rw [h0]; rfl
  rw [this, if_neg (by decide), e, h0]
  intro rest toks hr
  show Lxs .sp ((lit "User-agent:" ++ [32]) ++ rest) (lit "User-agent:" :: toks)
  rw [List.append_assoc]
  exact lx_key (by decide) hk hr.sp
 ·have : (p.1 != lit "") = true := bne_iff_ne.mpr h0
  rw [this, if_pos rfl, e]
  rcases h with h | ⟨h1, h2⟩
  ·exact leaf_text (by decide) hk h
  ·rw [h1] at h0 ⊢
   exact leaf_two (by decide) hk h0 h2
theorem lex_lines : ∀ ls : List (W × List W), (∀ l ∈ ls, LeafOk l) → Lxs .sp (joinW (lit "\n") (ls.map (·.1))) (ls.flatMap (·.2))
 | [], _ => lxs_sp0
 | [l], h => by
  have := h l (.head _) [] [] (.inl ⟨rfl, rfl⟩)
  simpa [joinW] using this
 | l :: l' :: r, h => by
  have ih := lex_lines (l' :: r) fun x hx => h x (.tail _ hx)
  have := h l (.head _) _ _ (.inr ⟨_, rfl, ih⟩)
  show Lxs .sp (l.1 ++ lit "\n" ++ joinW (lit "\n") ((l' :: r).map (·.1))) (l.2 ++ (l' :: r).flatMap (·.2))
  rw [List.append_assoc]
  exact this
structure GoodR (r : Row) : Prop where
 agents : ∀ p ∈ r.agents, PairOk p
 rules : ∀ p ∈ r.rules, ¬ p.1 > 0 → TextOk p.2.1 p.2.2
 delays : ∀ d ∈ r.delays, 0 ≤ d ∧ d < 1000
 rates : ∀ p ∈ r.rates, (0 ≤ p.1 ∧ p.1 < 10) ∧ 0 ≤ p.2 ∧ p.2 < 100
noncomputable def GoodN (nd : Nd) : Prop := LeafOk (nd.line, nd.words) ∧ ∀ r, nd.row = some r → GoodR r
theorem kids_good {rows : List Row} (hrows : ∀ r ∈ rows, GoodR r) {r : Row} (hr : GoodR r) {nd : Nd} (h : nd ∈ kidsOf rows r) : GoodN nd := by
 unfold kidsOf at h
 simp only [List.mem_append] at h
 rcases h with h | h | h | h | h
 ·obtain ⟨j, a, _, ha, rfl⟩ := imapF_mem h
  exact ⟨leaf_agent (hr.agents a ha), fun _ q => nomatch q⟩
 ·unfold heldD at h
  split at h
  ·rename_i p hp
   rw [List.mem_singleton.mp h]
   have hm := hr.delays p (List.mem_of_getLast? hp)
   obtain ⟨n1, n2⟩ := num_sp hm.1 hm.2
   exact ⟨leaf_two (k := lit "Crawl-delay:") (by decide) (by decide) n1 n2, fun _ q => nomatch q⟩
  ·cases h
 ·unfold heldC at h
  split at h
  ·rename_i p hp
   rw [List.mem_singleton.mp h]
   obtain ⟨⟨m1, m2⟩, m3, m4⟩ := hr.rates p (List.mem_of_getLast? hp)
   obtain ⟨n1, n2⟩ := num_sp m1 (by omega)
   obtain ⟨n3, n4⟩ := num_sp m3 (by omega)
   refine ⟨leaf_two (k := lit "Request-rate:") (w := rateW p) (by decide) (by decide) (fun q => ?_) (fun c hc => ?_), fun _ q => nomatch q⟩
   ·unfold rateW at q
    exact n1 (List.append_eq_nil_iff.mp (List.append_eq_nil_iff.mp q).1).1
   ·unfold rateW at hc
    rcases List.mem_append.mp hc with hc | hc
    ·rcases List.mem_append.mp hc with hc | hc
     ·exact n2 c hc
     ·exact (by decide : ∀ c ∈ lit "/", c ∉ spW) c hc
    ·exact n4 c hc
  ·cases h
 ·obtain ⟨j, a, _, ha, rfl⟩ := imapF_mem h
  unfold ruleNd
  by_cases q : a.1 > 0
  ·rw [if_pos q]
   refine ⟨leaf_nil, fun r' e => ?_⟩
   exact hrows r' (List.mem_of_getElem? e)
  ·rw [if_neg q]
   exact ⟨leaf_text (k := lit "Disallow:") (by decide) (by decide) (hr.rules a ha q), fun _ q => nomatch q⟩
 ·unfold heldA at h
  split at h
  ·rw [List.mem_singleton.mp h]
   exact ⟨leaf_word (by decide) (by decide), fun _ q => nomatch q⟩
  ·cases h
theorem lvN_good {rows : List Row} (hrows : ∀ r ∈ rows, GoodR r) : ∀ (d : Nat) (nd : Nd), GoodN nd → ∀ l ∈ lvN d rows nd, LeafOk l
 | 0, nd, h, l, hl => by
  rw [List.mem_singleton.mp hl]; exact h.1
 | d + 1, nd, h, l, hl => by
  cases hlf : nd.leaf with
  | true => rw [lvN_leaf hlf] at hl; rw [List.mem_singleton.mp hl]; exact h.1
  | false =>
   cases hrow : nd.row with
   | none => unfold Nd.leaf at hlf; rw [hrow] at hlf; cases hlf
   | some r =>
    rw [lvN_node hrow hlf] at hl
    obtain ⟨k, hk, hl⟩ := List.mem_flatMap.mp hl
    exact lvN_good hrows d k (kids_good hrows (h.2 r hrow) hk) l hl
end
end
section
noncomputable section
-- the lexer is a function
noncomputable def lxS : LS → W → Bool → W → (W × Bool × LS × W) ⊕ (LS × W × Bool × W)
 | .non, _, _, _ => .inl ([], false, .non, [])
 | .sp, _, _, r => match r with
  | [] => .inl ([], false, .non, [])
  | n :: r => if n ∈ spW then (if n = 35 then .inr (.sp, [], false, dropLine r) else if n ∈ [39, 34] then .inr (.q n, [], false, r) else .inr (.sp, [], false, r)) else .inr (.a, [n], false, r)
 | .q m, t, q, r => match r with
  | [] => .inl (t, q, .non, [])
  | n :: r => if n = m then .inr (.a, t, true, r) else .inr (.q m, t ++ [n], true, r)
 | .a, t, q, r => match r with
  | [] => .inl (t, q, .non, [])
  | n :: r => if n ∈ [39, 34] then .inr (.q n, t, q, r) else if n ∈ spW then .inl (t, q, .sp, r) else .inr (.a, t ++ [n], q, r)
inductive LRun (a : W × Bool × LS × W) : LS → W → Bool → W → Prop
 | done {s : LS} {t : W} {q : Bool} {r : W} (h : lxS s t q r = .inl a) : LRun a s t q r
 | next {s s' : LS} {t t' : W} {q q' : Bool} {r r' : W} (h : lxS s t q r = .inr (s', t', q', r')) (k : LRun a s' t' q' r') : LRun a s t q r
theorem LRun.det {a b : W × Bool × LS × W} {s : LS} {t : W} {q : Bool} {r : W} (h : LRun a s t q r) : LRun b s t q r → a = b := by
 induction h with
 | done h => intro k; cases k with
  | done h' => exact Sum.inl.inj (h.symm.trans h')
  | next h' _ => exact absurd (h.symm.trans h') Sum.inl_ne_inr
 | next h _ ih => intro k; cases k with
  | done h' => exact absurd (h'.symm.trans h) Sum.inl_ne_inr
  | next h' k => cases h.symm.trans h'; exact ih k
theorem lx_lrun {s : LS} {t : W} {q : Bool} {r : W} {a : W × Bool × LS × W} (h : Lx s t q r a) : LRun a s t q r := by
 have ws : ∀ n, n ∈ [32, 9, 13, 10] → n ∉ [39, 34] ∧ n ∈ spW ∧ n ≠ 35 := by decide
 have qs : ∀ n, n ∈ [39, 34] → n ∈ spW ∧ n ≠ 35 := by decide
 induction h with
 | non => exact .done rfl
 | spEnd => exact .done rfl
 | spWs h _ ih => exact .next ((if_pos (ws _ h).2.1).trans ((if_neg (ws _ h).2.2).trans (if_neg (ws _ h).1))) ih
 | spCom _ ih => exact .next rfl ih
 | spQ h _ ih => exact .next ((if_pos (qs _ h).1).trans ((if_neg (qs _ h).2).trans (if_pos h))) ih
 | spW h _ ih => exact .next (if_neg h) ih
 | qEnd _ ih => exact .next (if_pos rfl) ih
 | qIn h _ _ ih => exact .next (if_neg h) ih
 | aEnd => exact .done rfl
 | aWs h _ => exact .done ((if_neg (ws _ h).1).trans (if_pos (ws _ h).2.1))
 | aQ h _ ih => exact .next (if_pos h) ih
 | aW h _ ih => exact .next ((if_neg fun q => h (qs _ q).1).trans (if_neg h)) ih
theorem lx_det {s : LS} {t : W} {q : Bool} {r : W} {a b : W × Bool × LS × W} (h : Lx s t q r a) (k : Lx s t q r b) : a = b := (lx_lrun h).det (lx_lrun k)
theorem Lxs.head {s : LS} {r w v : W} {as bs : List W} (h : Lxs s r (w :: as)) (k : Lxs s r (v :: bs)) : w = v := by
 cases h with
 | tok _ h _ _ =>
  cases k with
  | tok _ k _ _ => have := lx_det h k; cases this; rfl
theorem PairOk.lx {p : W × W} (h : PairOk p) (hne : p.1 ≠ []) : Lxs .sp p.1 [p.2] := by
 rcases h with h | ⟨h1, h2⟩
 ·have := lx_text (toks := []) h (.inl ⟨rfl, rfl⟩)
  rwa [List.append_nil] at this
 ·rw [h1] at hne ⊢
  have := lx_word (toks := []) hne h2 (.inl (.inl ⟨rfl, rfl⟩))
  rwa [List.append_nil] at this
theorem PairOk.inj {a b : W × W} (ha : PairOk a) (hb : PairOk b) (e : a.1 = b.1) : a = b := by
 have e2 : a.2 = b.2 := by
  by_cases h : a.1 = []
  ·have key : ∀ {p : W × W}, PairOk p → p.1 = [] → p.2 = [] := fun {p} hp h0 => by
    rcases hp with (h | h) | ⟨h, _⟩
    ·exact absurd (h ▸ h0) (quoteW_ne _)
    ·rw [h] at h0; exact absurd (List.append_eq_nil_iff.mp h0).1 (quoteW_ne _)
    ·rw [← h, h0]
   rw [key ha h, key hb (e ▸ h)]
  ·have h1 := ha.lx h
   rw [e] at h1 h
   exact h1.head (hb.lx h)
 cases a; cases b; cases e; cases e2; rfl
-- the rows that are drawn
theorem text_ok (k : Int) (w : W) (h : k ≠ 0) : TextOk (textOf k w) w := by
 unfold textOf
 rw [if_neg fun q => h q.1]
 by_cases h2 : k = 1 ∨ k = 5
 ·rw [if_pos h2]; exact .inr rfl
 ·rw [if_neg h2, List.append_nil]; exact .inl rfl
theorem pair_ok (k : Int) (w : W) : PairOk (textOf k w, w) := by
 by_cases h : k = 0
 ·subst h
  by_cases h2 : w = [] ∨ w = lit "*"
  ·have e : textOf 0 w = w := by unfold textOf; rw [if_pos ⟨rfl, h2⟩]
   rw [e]
   refine .inr ⟨rfl, ?_⟩
   rcases h2 with rfl | rfl
   ·exact fun _ h => nomatch h
   ·decide
  ·refine .inl (.inl ?_)
   show textOf 0 w = _
   unfold textOf
   rw [if_neg fun q => h2 q.2, if_neg (by decide), List.append_nil]
 ·exact .inl (text_ok k w h)
theorem textOf_len25 (k v : Int) : (textOf k (wordOf v)).length ≤ 25 := by
 have h := wordOf_len v
 have h2 := quoteW_len (wordOf v)
 have e : (lit " #'").length = 3 := by decide
 unfold textOf
 split
 ·omega
 ·rw [List.length_append]
  split
  ·omega
  ·simp; omega
noncomputable def chL (rs : List (Nat × W × W)) : Nat := (rs.filter fun p => decide (p.1 > 0)).length
structure RI (i j n : Nat) (r : Row) : Prop where
 good : GoodR r
 al : ∀ p ∈ r.agents, p.1.length ≤ 25 ∧ p.2.length ≤ 25
 rl : ∀ p ∈ r.rules, p.2.1.length ≤ 25 ∧ p.2.2.length ≤ 25
 ch : ∀ p ∈ r.rules, p.1 > 0 → j < p.1 ∧ 2 ≤ p.1 ∧ p.1 < n
 tot : r.agents.length + r.rules.length ≤ i + 1
structure RInv (i : Nat) (rows : List Row) : Prop where
 b : RowsB i rows
 each : ∀ j r, rows[j]? = some r → RI i j rows.length r
 cnt : (rows.map fun r => chL r.rules).sum + 2 = rows.length
theorem sum_set {α : Type} (f : α → Nat) : ∀ (l : List α) (i : Nat) (a b : α), l[i]? = some a → ((l.set i b).map f).sum + f a = (l.map f).sum + f b
 | [], i, a, b, h => by simp at h
 | x :: l, 0, a, b, h => by
  simp at h; subst h
  simp only [List.set_cons_zero, List.map_cons, List.sum_cons]; omega
 | x :: l, i + 1, a, b, h => by
  have := sum_set f l i a b (by simpa using h)
  simp only [List.set_cons_succ, List.map_cons, List.sum_cons]; omega
theorem le_sum {α : Type} (f : α → Nat) : ∀ (l : List α) (a : α), a ∈ l → f a ≤ (l.map f).sum
 | x :: l, a, h => by
  simp only [List.map_cons, List.sum_cons]
  rcases List.mem_cons.mp h with rfl | h
  ·omega
  ·have := le_sum f l a h; omega
theorem sum_zero {α : Type} {f : α → Nat} : ∀ {l : List α}, (∀ a ∈ l, f a = 0) → (l.map f).sum = 0
 | [], _ => rfl
 | x :: l, h => by rw [List.map_cons, List.sum_cons, h x (.head _), sum_zero fun a ha => h a (.tail _ ha)]
theorem chL_snoc (rs : List (Nat × W × W)) (p : Nat × W × W) : chL (rs ++ [p]) = chL rs + if p.1 > 0 then 1 else 0 := by
 unfold chL
 rw [List.filter_append, List.length_append]
 congr 1
 by_cases h : p.1 > 0
 ·rw [if_pos h, List.filter_cons, if_pos (by simpa using h)]; rfl
 ·rw [if_neg h, List.filter_cons, if_neg (by simpa using h)]; rfl
theorem word25 (v : Int) : (wordOf v).length ≤ 25 := by have := wordOf_len v; omega
theorem RI.up {i j n i' n' : Nat} {r : Row} (h : RI i j n r) (hi : i ≤ i') (hn : n ≤ n') : RI i' j n' r :=
 ⟨h.good, h.al, h.rl, fun p hp h0 => let ⟨a, b, c⟩ := h.ch p hp h0; ⟨a, b, Nat.lt_of_lt_of_le c hn⟩, Nat.le_trans h.tot (Nat.succ_le_succ hi)⟩
theorem rowPut_RI {i j n : Nat} {r : Row} {k v : Int} (h : RI i j n r) (hj : j < n) (h2 : 2 ≤ n) (h0 : 0 ≤ k) : RI (i + 1) j (n + (rowNew k n v).length) (rowPut r k n v) ∧ chL (rowPut r k n v).rules = chL r.rules + (rowNew k n v).length := by
 have e0 : k < 7 ∨ 5 < n → rowNew k n v = [] := fun q => by unfold rowNew; rw [if_pos q]
 have tot := h.tot
 have snocR : ∀ (P : (Nat × W × W) → Prop) (x : Nat × W × W), (∀ p ∈ r.rules, P p) → P x → ∀ p ∈ r.rules ++ [x], P p := fun P x h1 h2 p hp => by
  rcases List.mem_append.mp hp with hp | hp
  ·exact h1 p hp
  ·rw [List.mem_singleton.mp hp]; exact h2
 unfold rowPut
 by_cases q1 : k < 2
 ·rw [if_pos q1, e0 (.inl (by omega))]
  refine ⟨⟨⟨fun p hp => ?_, h.good.rules, h.good.delays, h.good.rates⟩, fun p hp => ?_, h.rl, h.ch, ?_⟩, rfl⟩
  ·rcases List.mem_append.mp hp with hp | hp
   ·exact h.good.agents p hp
   ·rw [List.mem_singleton.mp hp]; exact pair_ok _ _
  ·rcases List.mem_append.mp hp with hp | hp
   ·exact h.al p hp
   ·rw [List.mem_singleton.mp hp]; exact ⟨textOf_len25 _ _, word25 _⟩
  ·dsimp only; rw [List.length_append, List.length_singleton]; omega
 rw [if_neg q1]
 by_cases q2 : k = 2
 ·rw [if_pos q2, e0 (.inl (by omega))]
  refine ⟨⟨⟨h.good.agents, h.good.rules, fun d hd => ?_, h.good.rates⟩, h.al, h.rl, h.ch, Nat.le_succ_of_le tot⟩, rfl⟩
  rcases List.mem_append.mp hd with hd | hd
  ·exact h.good.delays d hd
  ·rw [List.mem_singleton.mp hd]; exact fmod_range _ (by decide)
 rw [if_neg q2]
 by_cases q3 : k = 3
 ·rw [if_pos q3, e0 (.inl (by omega))]
  refine ⟨⟨⟨h.good.agents, h.good.rules, h.good.delays, fun d hd => ?_⟩, h.al, h.rl, h.ch, Nat.le_succ_of_le tot⟩, rfl⟩
  rcases List.mem_append.mp hd with hd | hd
  ·exact h.good.rates d hd
  ·rw [List.mem_singleton.mp hd]; exact ⟨fmod_range _ (by decide), fmod_range _ (by decide)⟩
 rw [if_neg q3]
 by_cases q4 : k < 7 ∨ 5 < n
 ·rw [if_pos q4, e0 q4]
  refine ⟨⟨⟨h.good.agents, snocR _ _ h.good.rules fun _ => text_ok _ _ (by omega), h.good.delays, h.good.rates⟩, h.al, snocR _ _ h.rl ⟨textOf_len25 _ _, word25 _⟩, snocR _ _ h.ch fun z => absurd z (Nat.lt_irrefl 0), ?_⟩, chL_snoc _ _⟩
  dsimp only; rw [List.length_append, List.length_singleton]; omega
 rw [if_neg q4]
 have e1 : (rowNew k n v).length = 1 := by unfold rowNew; rw [if_neg q4]; rfl
 rw [e1]
 refine ⟨⟨⟨h.good.agents, snocR _ _ h.good.rules fun z => absurd (show n > 0 by omega) z, h.good.delays, h.good.rates⟩, h.al, snocR _ _ h.rl ⟨Nat.zero_le _, Nat.zero_le _⟩, snocR _ _ (fun p hp z => let ⟨a, b, c⟩ := h.ch p hp z; ⟨a, b, Nat.lt_succ_of_lt c⟩) fun _ => ⟨hj, h2, Nat.lt_succ_self _⟩, ?_⟩, ?_⟩
 ·dsimp only; rw [List.length_append, List.length_singleton]; omega
 ·dsimp only; rw [chL_snoc]; dsimp only; rw [if_pos (by omega)]
theorem rowNew_RI {i j n m : Nat} {k v : Int} {r : Row} (h : r ∈ rowNew k n v) : RI i j m r ∧ chL r.rules = 0 := by
 unfold rowNew at h
 split at h
 ·cases h
 ·rw [List.mem_singleton.mp h]
  refine ⟨⟨⟨fun p hp => ?_, fun _ h => (nomatch h), fun _ h => (nomatch h), fun _ h => nomatch h⟩, fun p hp => ?_, fun _ h => (nomatch h), fun _ h => (nomatch h), ?_⟩, rfl⟩
  ·dsimp only at hp; split at hp
   ·rw [List.mem_singleton.mp hp]; exact pair_ok _ _
   ·cases hp
  ·dsimp only at hp; split at hp
   ·rw [List.mem_singleton.mp hp]; exact ⟨textOf_len25 _ _, word25 _⟩
   ·cases hp
  ·dsimp only; split <;> simp
theorem rowStep_inv {i : Nat} {rows : List Row} (h : RInv i rows) (n : Int) : RInv (i + 1) (rowStep rows n) := by
 have hb := rowStep_b h.b n
 have hI := stepI_lt (n := n) h.b.low
 have hr : rows[stepI n rows]? = some rows[stepI n rows] := List.getElem?_eq_getElem hI
 generalize rows[stepI n rows] = r at hr
 have e : rowStep rows n = rows.set (stepI n rows) (rowPut r (n.fmod 10) rows.length (stepV n rows)) ++ rowNew (n.fmod 10) rows.length (stepV n rows) := by unfold rowStep; rw [hr]
 rw [e] at hb ⊢
 obtain ⟨p1, p2⟩ := rowPut_RI (k := n.fmod 10) (v := stepV n rows) (h.each _ _ hr) hI h.b.low (fmod_range n (by decide)).1
 generalize hN : rowNew (n.fmod 10) rows.length (stepV n rows) = new at *
 have hnew : ∀ r ∈ new, ∀ j, RI (i + 1) j (rows.length + new.length) r ∧ chL r.rules = 0 := fun r hr j => rowNew_RI (hN ▸ hr)
 have hlen : (rows.set (stepI n rows) (rowPut r (n.fmod 10) rows.length (stepV n rows)) ++ new).length = rows.length + new.length := by rw [List.length_append, List.length_set]
 refine ⟨hb, fun j x hx => ?_, ?_⟩
 ·rw [hlen]
  by_cases hj : j < rows.length
  ·rw [List.getElem?_append_left (by rw [List.length_set]; exact hj)] at hx
   rw [List.getElem?_set] at hx
   split at hx
   ·rename_i e
    subst e
    cases hx; exact p1
   ·exact (h.each j x hx).up (Nat.le_succ _) (Nat.le_add_right _ _)
  ·rw [List.getElem?_append_right (by rw [List.length_set]; omega)] at hx
   exact (hnew x (List.mem_of_getElem? hx) j).1
 ·rw [hlen, List.map_append, List.sum_append]
  have s1 := sum_set (fun r => chL r.rules) rows _ r (rowPut r (n.fmod 10) rows.length (stepV n rows)) hr
  have s2 := sum_zero (f := fun r => chL r.rules) (l := new) fun r hr => (hnew r hr 0).2
  have := h.cnt
  omega
theorem rows_inv : ∀ (ns : List Int) {i : Nat} {rows : List Row}, RInv i rows → RInv (i + ns.length) (ns.foldl rowStep rows)
 | [], i, rows, h => h
 | n :: ns, i, rows, h => by
  have := rows_inv ns (rowStep_inv h n)
  rw [List.length_cons, show i + (ns.length + 1) = i + 1 + ns.length by omega]
  exact this
theorem rows0_inv : RInv 0 [row0, row0] := by
 refine ⟨rows0_b, fun j r hr => ?_, rfl⟩
 have e : r = row0 := by simpa using List.mem_of_getElem? hr
 subst e
 refine ⟨⟨fun p hp => ?_, fun _ h => (nomatch h), fun _ h => (nomatch h), fun _ h => nomatch h⟩, fun p hp => ?_, fun _ h => (nomatch h), fun _ h => (nomatch h), Nat.le_refl _⟩
 ·rw [List.mem_singleton.mp hp]; exact .inr ⟨rfl, by decide⟩
 ·rw [List.mem_singleton.mp hp]; decide
theorem rowsOf_inv (ns : List Int) : RInv ns.length (rowsOf ns) := by
 have := rows_inv ns rows0_inv
 rwa [Nat.zero_add] at this
end
end
section
noncomputable section
theorem lvN_all {rows : List Row} {P : W × List W → Prop} {G : Row → Prop} (hk : ∀ r, G r → ∀ nd ∈ kidsOf rows r, P (nd.line, nd.words) ∧ ∀ r', nd.row = some r' → G r') :
  ∀ (d : Nat) (nd : Nd), P (nd.line, nd.words) → (∀ r, nd.row = some r → G r) → ∀ l ∈ lvN d rows nd, P l
 | 0, nd, h, _, l, hl => by rw [List.mem_singleton.mp hl]; exact h
 | d + 1, nd, h, hg, l, hl => by
  cases hlf : nd.leaf with
  | true => rw [lvN_leaf hlf] at hl; rw [List.mem_singleton.mp hl]; exact h
  | false =>
   cases hrow : nd.row with
   | none => unfold Nd.leaf at hlf; rw [hrow] at hlf; cases hlf
   | some r =>
    rw [lvN_node hrow hlf] at hl
    obtain ⟨k, hk', hl⟩ := List.mem_flatMap.mp hl
    obtain ⟨p1, p2⟩ := hk r (hg r hrow) k hk'
    exact lvN_all hk d k p1 p2 l hl
structure LG (r : Row) : Prop where
 good : GoodR r
 al : ∀ p ∈ r.agents, p.1.length ≤ 25 ∧ p.2.length ≤ 25
 rl : ∀ p ∈ r.rules, p.2.1.length ≤ 25 ∧ p.2.2.length ≤ 25
noncomputable def SmallL (l : W × List W) : Prop := l.1.length ≤ 37 ∧ l.2.length ≤ 2
theorem kids_small {rows : List Row} (hrows : ∀ r ∈ rows, LG r) {r : Row} (hr : LG r) {nd : Nd} (h : nd ∈ kidsOf rows r) : SmallL (nd.line, nd.words) ∧ ∀ r', nd.row = some r' → LG r' := by
 unfold kidsOf at h
 simp only [List.mem_append] at h
 rcases h with h | h | h | h | h
 ·obtain ⟨j, a, _, ha, rfl⟩ := imapF_mem h
  have := (hr.al a ha).1
  have e : (lit "User-agent: ").length = 12 := by decide
  refine ⟨⟨?_, ?_⟩, fun _ q => nomatch q⟩
  ·show (lit "User-agent: " ++ a.1).length ≤ 37
   rw [List.length_append]; omega
  ·show (if a.1 != lit "" then [lit "User-agent:", a.2] else [lit "User-agent:"] : List W).length ≤ 2
   split <;> simp
 ·unfold heldD at h
  split at h
  ·rename_i p hp
   rw [List.mem_singleton.mp h]
   have hm := hr.good.delays p (List.mem_of_getLast? hp)
   have := numW_le hm.1 hm.2
   have e : (lit "Crawl-delay: ").length = 13 := by decide
   refine ⟨⟨?_, Nat.le_refl _⟩, fun _ q => nomatch q⟩
   show (lit "Crawl-delay: " ++ numW p).length ≤ 37
   rw [List.length_append]; omega
  ·cases h
 ·unfold heldC at h
  split at h
  ·rename_i p hp
   rw [List.mem_singleton.mp h]
   obtain ⟨⟨m1, m2⟩, m3, m4⟩ := hr.good.rates p (List.mem_of_getLast? hp)
   have n1 := numW_le m1 (by omega)
   have n2 := numW_le m3 (by omega)
   have e : (lit "Request-rate: ").length = 14 := by decide
   have e2 : (lit "/").length = 1 := by decide
   refine ⟨⟨?_, Nat.le_refl _⟩, fun _ q => nomatch q⟩
   show (lit "Request-rate: " ++ (numW p.1 ++ lit "/" ++ numW p.2)).length ≤ 37
   rw [List.length_append, List.length_append, List.length_append]; omega
  ·cases h
 ·obtain ⟨j, a, _, ha, rfl⟩ := imapF_mem h
  unfold ruleNd
  by_cases q : a.1 > 0
  ·rw [if_pos q]
   refine ⟨⟨Nat.zero_le _, Nat.zero_le _⟩, fun r' e => ?_⟩
   exact hrows r' (List.mem_of_getElem? e)
  ·rw [if_neg q]
   have := (hr.rl a ha).1
   have e : (lit "Disallow: ").length = 10 := by decide
   refine ⟨⟨?_, Nat.le_refl _⟩, fun _ q => nomatch q⟩
   show (lit "Disallow: " ++ a.2.1).length ≤ 37
   rw [List.length_append]; omega
 ·unfold heldA at h
  split at h
  ·rw [List.mem_singleton.mp h]
   exact ⟨⟨by decide, by decide⟩, fun _ q => nomatch q⟩
  ·cases h
theorem joinW_cons (sep w : W) (l : List W) (h : l ≠ []) : joinW sep (w :: l) = w ++ sep ++ joinW sep l := by
 cases l with
 | nil => exact absurd rfl h
 | cons v r => rfl
theorem joinW_app (sep : W) : ∀ (a b : List W), a ≠ [] → b ≠ [] → joinW sep (a ++ b) = joinW sep a ++ sep ++ joinW sep b
 | [x], b, _, hb => joinW_cons sep x b hb
 | x :: y :: a, b, _, hb => by
  show x ++ sep ++ joinW sep ((y :: a) ++ b) = x ++ sep ++ joinW sep (y :: a) ++ sep ++ joinW sep b
  rw [joinW_app sep (y :: a) b (by simp) hb]
  simp
theorem joinW_flat {α : Type} (sep : W) (f : α → List W) : ∀ ks : List α, (∀ k ∈ ks, f k ≠ []) → joinW sep (ks.flatMap f) = joinW sep (ks.map fun k => joinW sep (f k))
 | [], _ => rfl
 | [k], h => by rw [List.flatMap_cons, List.flatMap_nil, List.append_nil]; rfl
 | k :: k' :: ks, h => by
  have ih := joinW_flat sep f (k' :: ks) fun x hx => h x (.tail _ hx)
  have hne : (k' :: ks).flatMap f ≠ [] := by
   rw [List.flatMap_cons]
   exact fun q => h k' (.tail _ (.head _)) (List.append_eq_nil_iff.mp q).1
  rw [List.flatMap_cons, joinW_app sep _ _ (h k (.head _)) hne, ih]
  rfl
theorem joinW_le : ∀ ls : List W, (∀ l ∈ ls, l.length ≤ 37) → (joinW (lit "\n") ls).length ≤ 38 * ls.length
 | [], _ => Nat.zero_le _
 | [l], h => by have := h l (.head _); show l.length ≤ 38 * 1; omega
 | l :: l' :: r, h => by
  have ih := joinW_le (l' :: r) fun x hx => h x (.tail _ hx)
  have h1 := h l (.head _)
  have e : (lit "\n").length = 1 := by decide
  show (l ++ lit "\n" ++ joinW (lit "\n") (l' :: r)).length ≤ _
  rw [List.length_append, List.length_append, List.length_cons]
  omega
theorem imapF_map {α β γ : Type} {f : Nat → α → β} {g : β → γ} {k : α → γ} (h : ∀ j a, g (f j a) = k a) : ∀ (l : List α) (i : Nat), (imapF f i l).map g = l.map k
 | [], _ => rfl
 | a :: l, i => by show g (f i a) :: _ = k a :: _; rw [h, imapF_map h l (i + 1)]
theorem strOf_lv {rows : List Row} : ∀ (d : Nat) (nd : Nd) (r : Row), nd.row = some r → nd.line = [] → Dp d rows nd → strOf d rows r = joinW (lit "\n") ((lvN d rows nd).map (·.1))
 | 0, nd, r, hr, _, hd => by rw [show nd.row = none from hd] at hr; cases hr
 | d + 1, nd, r, hr, hl, hd => by
  have leaf : ∀ nd : Nd, nd.row = none → joinW (lit "\n") ((lvN d rows nd).map (·.1)) = nd.line := fun nd h => by
   rw [lvN_leaf (by unfold Nd.leaf; rw [h])]; rfl
  cases hlf : nd.leaf with
  | true =>
   rw [lvN_leaf hlf]
   unfold Nd.leaf at hlf
   rw [hr] at hlf
   unfold strOf
   rw [if_pos hlf, hl]
   rfl
  | false =>
   rw [lvN_node hr hlf]
   unfold Nd.leaf at hlf
   rw [hr] at hlf
   unfold strOf
   rw [if_neg (Bool.eq_false_iff.mp hlf), List.map_flatMap, joinW_flat _ _ _ fun k _ q => by
    have := lvN_pos d rows k
    have q2 := congrArg List.length q
    rw [List.length_map] at q2
    simp at q2
    rw [q2] at this
    simp at this]
   congr 1
   have hdk := hd r hr
   unfold kidsOf at hdk ⊢
   rw [List.map_append, List.map_append, List.map_append, List.map_append, List.append_assoc, List.append_assoc]
   congr 1
   ·exact (imapF_map (f := agentNd) (g := fun k => joinW (lit "\n") ((lvN d rows k).map (·.1))) (k := fun p => lit "User-agent: " ++ p.1) (fun j a => leaf (agentNd j a) rfl) r.agents 0).symm
   congr 1
   ·unfold delayT heldD
    generalize r.delays.getLast? = o
    cases o with
    | none => rfl
    | some p => exact congrArg (· :: []) (leaf ⟨[1], none, lit "Crawl-delay: " ++ numW p, [lit "Crawl-delay:", numW p]⟩ rfl).symm
   congr 1
   ·unfold rateT heldC
    generalize r.rates.getLast? = o
    cases o with
    | none => rfl
    | some p =>
     refine congrArg (· :: []) (Eq.trans ?_ (leaf ⟨[2], none, lit "Request-rate: " ++ rateW p, [lit "Request-rate:", rateW p]⟩ rfl).symm)
     show lit "Request-rate: " ++ numW p.1 ++ lit "/" ++ numW p.2 = lit "Request-rate: " ++ (numW p.1 ++ lit "/" ++ numW p.2)
     simp
   ·unfold heldA
    by_cases he : r.rules.isEmpty = true
    ·rw [if_pos he, if_pos he]
     rw [List.isEmpty_iff.mp he]
     exact congrArg (· :: []) (leaf ⟨[3], none, lit "Allow:", [lit "Allow:"]⟩ rfl).symm
    ·rw [if_neg he, if_neg he, List.map_nil, List.append_nil]
     have : ∀ (l : List (Nat × W × W)) (i : Nat), (∀ k ∈ imapF (ruleNd rows) i l, Dp d rows k) → l.map (fun p => if p.1 > 0 then (match rows[p.1]? with | some r => strOf d rows r | none => []) else lit "Disallow: " ++ p.2.1) = (imapF (ruleNd rows) i l).map fun k => joinW (lit "\n") ((lvN d rows k).map (·.1)) := by
      intro l
      induction l with
      | nil => intro i _; rfl
      | cons p l ih =>
       intro i hk
       show _ :: _ = _ :: _
       rw [ih (i + 1) fun k h => hk k (.tail _ h)]
       congr 1
       have h1 := hk _ (.head _)
       show (if p.1 > 0 then (match rows[p.1]? with | some r => strOf d rows r | none => []) else lit "Disallow: " ++ p.2.1) = joinW (lit "\n") ((lvN d rows (ruleNd rows i p)).map (·.1))
       by_cases q : p.1 > 0
       ·rw [if_pos q]
        have e : ruleNd rows i p = ⟨[3, i], rows[p.1]?, lit "", []⟩ := by unfold ruleNd; rw [if_pos q]
        rw [e] at h1 ⊢
        cases hq : rows[p.1]? with
        | none => exact (leaf ⟨[3, i], none, lit "", []⟩ rfl).symm
        | some r' => rw [hq] at h1; exact strOf_lv d _ r' rfl rfl h1
       ·rw [if_neg q]
        have e : ruleNd rows i p = ⟨[3, i], none, lit "Disallow: " ++ p.2.1, [lit "Disallow:", p.2.2]⟩ := by unfold ruleNd; rw [if_neg q]
        rw [e]
        exact (leaf ⟨[3, i], none, lit "Disallow: " ++ p.2.1, [lit "Disallow:", p.2.2]⟩ rfl).symm
     exact this _ _ fun k hk => hdk k (List.mem_append_right _ (List.mem_append_right _ (List.mem_append_right _ (List.mem_append_left _ hk))))
end
end
section
noncomputable section
noncomputable def lvB : Nat → Nat
 | 0 => 0
 | k + 1 => 21 + 4 * lvB k
theorem flat_le {d : Nat} {rows : List Row} {B : Nat} : ∀ (l : List (Nat × W × W)) (i : Nat), (∀ p ∈ l, ∀ nd : Nd, p.1 > 0 → nd.row = rows[p.1]? → (lvN d rows nd).length ≤ B + 1) → ((imapF (ruleNd rows) i l).flatMap (lvN d rows)).length ≤ l.length + chL l * B
 | [], _, _ => Nat.zero_le _
 | p :: l, i, h => by
  have ih := flat_le l (i + 1) fun x hx => h x (.tail _ hx)
  show ((ruleNd rows i p :: imapF (ruleNd rows) (i + 1) l).flatMap (lvN d rows)).length ≤ _
  rw [List.flatMap_cons, List.length_append, List.length_cons]
  have ec : chL (p :: l) = (if p.1 > 0 then 1 else 0) + chL l := by
   unfold chL
   by_cases q : p.1 > 0
   ·rw [List.filter_cons, if_pos (by simpa using q), if_pos q, List.length_cons, Nat.add_comm]
   ·rw [List.filter_cons, if_neg (by simpa using q), if_neg q, Nat.zero_add]
  rw [ec, Nat.add_mul]
  by_cases q : p.1 > 0
  ·have := h p (.head _) (ruleNd rows i p) q (by unfold ruleNd; rw [if_pos q])
   rw [if_pos q]
   omega
  ·have : (lvN d rows (ruleNd rows i p)).length = 1 := by
    rw [lvN_leaf (by unfold ruleNd; rw [if_neg q]; rfl)]; rfl
   rw [if_neg q]
   omega
theorem flat_one {d : Nat} {rows : List Row} : ∀ ks : List Nd, (∀ k ∈ ks, k.row = none) → (ks.flatMap (lvN d rows)).length = ks.length
 | [], _ => rfl
 | k :: ks, h => by
  rw [List.flatMap_cons, List.length_append, List.length_cons, flat_one ks fun x hx => h x (.tail _ hx), lvN_leaf (by unfold Nd.leaf; rw [h k (.head _)]), List.length_singleton, Nat.add_comm]
theorem kids_cnt {d : Nat} {rows : List Row} {r : Row} {B : Nat} (h : ∀ p ∈ r.rules, ∀ nd : Nd, p.1 > 0 → nd.row = rows[p.1]? → (lvN d rows nd).length ≤ B + 1) : ((kidsOf rows r).flatMap (lvN d rows)).length ≤ r.agents.length + r.rules.length + 3 + chL r.rules * B := by
 have e1 : ((imap agentNd r.agents).flatMap (lvN d rows)).length = r.agents.length := by
  rw [flat_one _ fun k hk => by obtain ⟨j, a, _, _, rfl⟩ := imapF_mem hk; rfl, imap_len]
 have e2 : ((heldD r).flatMap (lvN d rows)).length ≤ 1 := by
  rw [flat_one _ fun k hk => by
   unfold heldD at hk; split at hk
   ·rw [List.mem_singleton.mp hk]
   ·cases hk]
  unfold heldD; split <;> simp
 have e3 : ((heldC r).flatMap (lvN d rows)).length ≤ 1 := by
  rw [flat_one _ fun k hk => by
   unfold heldC at hk; split at hk
   ·rw [List.mem_singleton.mp hk]
   ·cases hk]
  unfold heldC; split <;> simp
 have e4 := flat_le r.rules 0 h
 have e5 : ((heldA r).flatMap (lvN d rows)).length ≤ 1 := by
  rw [flat_one _ fun k hk => by
   unfold heldA at hk; split at hk
   ·rw [List.mem_singleton.mp hk]
   ·cases hk]
  unfold heldA; split <;> simp
 unfold kidsOf
 simp only [List.flatMap_append, List.length_append]
 show _ + (_ + (_ + (((imapF (ruleNd rows) 0 r.rules).flatMap (lvN d rows)).length + _))) ≤ _
 omega
theorem kids_row {rows : List Row} {r : Row} {nd : Nd} (h : nd ∈ kidsOf rows r) : nd.row = none ∨ ∃ p ∈ r.rules, p.1 > 0 ∧ nd.row = rows[p.1]? := by
 unfold kidsOf at h
 simp only [List.mem_append] at h
 rcases h with h | h | h | h | h
 ·obtain ⟨j, a, _, ha, rfl⟩ := imapF_mem h; exact .inl rfl
 ·unfold heldD at h; split at h
  ·rw [List.mem_singleton.mp h]; exact .inl rfl
  ·cases h
 ·unfold heldC at h; split at h
  ·rw [List.mem_singleton.mp h]; exact .inl rfl
  ·cases h
 ·obtain ⟨j, a, _, ha, rfl⟩ := imapF_mem h
  by_cases q : a.1 > 0
  ·exact .inr ⟨a, ha, q, by unfold ruleNd; rw [if_pos q]⟩
  ·exact .inl (by unfold ruleNd; rw [if_neg q])
 ·unfold heldA at h; split at h
  ·rw [List.mem_singleton.mp h]; exact .inl rfl
  ·cases h
theorem dp_none {d : Nat} {rows : List Row} {nd : Nd} (h : nd.row = none) : Dp d rows nd := by
 cases d with
 | zero => exact h
 | succ d => intro r q; rw [h] at q; cases q
theorem dp_succ {d : Nat} {rows : List Row} {nd : Nd} {r : Row} (hr : nd.row = some r) (h : ∀ p ∈ r.rules, ∀ nd : Nd, p.1 > 0 → nd.row = rows[p.1]? → Dp d rows nd) : Dp (d + 1) rows nd := fun r' hr' k hk => by
 rw [hr] at hr'; cases hr'
 rcases kids_row hk with q | ⟨p, hp, q, e⟩
 ·exact dp_none q
 ·exact h p hp k q e
theorem len_succ {d B : Nat} {rows : List Row} {nd : Nd} {r : Row} (hr : nd.row = some r) (h : ∀ p ∈ r.rules, ∀ nd : Nd, p.1 > 0 → nd.row = rows[p.1]? → (lvN d rows nd).length ≤ B + 1) : (lvN (d + 1) rows nd).length ≤ r.agents.length + r.rules.length + 3 + chL r.rules * B := by
 cases hlf : nd.leaf with
 | true => rw [lvN_leaf hlf]; show 1 ≤ _; omega
 | false => rw [lvN_node hr hlf]; exact kids_cnt h
section
variable {i : Nat} {rows : List Row}
theorem RInv.ch4 (h : RInv i rows) {r : Row} (hr : r ∈ rows) : chL r.rules ≤ 4 := by
 have := le_sum (fun r => chL r.rules) rows r hr
 have := h.cnt
 have := h.b.high
 omega
theorem RInv.lg (h : RInv i rows) {r : Row} (hr : r ∈ rows) : LG r := by
 obtain ⟨j, hj⟩ := List.mem_iff_getElem?.mp hr
 have := h.each j r hj
 exact ⟨this.good, this.al, this.rl⟩
theorem RInv.rowOk (h : RInv i rows) (hi : i ≤ 17) {r : Row} (hr : r ∈ rows) : RowOk r := by
 have l := h.lg hr
 have b := h.b.each r hr
 have h1 := b.agents; have h2 := b.rules; have h3 := b.rates; have h4 := b.delays
 exact ⟨fun p hp => let ⟨x, y⟩ := l.al p hp; ⟨Nat.le_trans x (by decide), Nat.le_trans y (by decide)⟩, l.good.delays, l.good.rates, fun p hp => let ⟨x, y⟩ := l.rl p hp; ⟨Nat.le_trans x (by decide), Nat.le_trans y (by decide)⟩, ⟨by omega, by omega⟩, by omega, by omega⟩
theorem sub_len (h : RInv i rows) (hi : i ≤ 17) : ∀ (k j d : Nat) (r : Row) (nd : Nd), rows[j]? = some r → rows.length ≤ j + k → k ≤ d → nd.row = some r → Dp d rows nd ∧ (lvN d rows nd).length ≤ lvB k := by
 intro k
 induction k with
 | zero => exact fun j d r nd hj hk _ _ => absurd (List.getElem?_eq_some_iff.mp hj).1 (Nat.not_lt.mpr hk)
 | succ k IH =>
  intro j d r nd hj hk hd hr
  obtain _ | d := d
  ·exact absurd hd (Nat.not_succ_le_zero _)
  have hm := List.mem_of_getElem? hj
  have ri := h.each j r hj
  have c4 := h.ch4 hm
  have sub : ∀ p ∈ r.rules, ∀ nd : Nd, p.1 > 0 → nd.row = rows[p.1]? → Dp d rows nd ∧ (lvN d rows nd).length ≤ lvB k := fun p hp nd q e => by
   obtain ⟨a, b, c⟩ := ri.ch p hp q
   have hp1 : rows[p.1]? = some rows[p.1] := List.getElem?_eq_getElem c
   exact IH p.1 d _ nd hp1 (by omega) (by omega) (e.trans hp1)
  refine ⟨dp_succ hr fun p hp nd q e => (sub p hp nd q e).1, ?_⟩
  have := len_succ (B := lvB k) hr fun p hp nd q e => Nat.le_succ_of_le (sub p hp nd q e).2
  have tot := ri.tot
  have : chL r.rules * lvB k ≤ 4 * lvB k := Nat.mul_le_mul_right _ c4
  show _ ≤ 21 + 4 * lvB k
  omega
theorem str_le (h : RInv i rows) {d : Nat} {nd : Nd} {r : Row} (hr : nd.row = some r) (hg : LG r) (hl : nd.line = []) (hw : nd.words = []) (hd : Dp d rows nd) : (strOf d rows r).length ≤ 38 * (lvN d rows nd).length := by
 rw [strOf_lv d nd r hr hl hd]
 have := lvN_all (rows := rows) (P := SmallL) (G := LG) (fun r hr nd hn => kids_small (fun r hr => h.lg hr) hr hn) d nd ⟨by rw [hl]; exact Nat.zero_le _, by rw [hw]; exact Nat.zero_le _⟩ fun r' e => by rw [hr] at e; cases e; exact hg
 have k := joinW_le ((lvN d rows nd).map (·.1)) fun l hl => by
  obtain ⟨x, hx, rfl⟩ := List.mem_map.mp hl
  exact (this x hx).1
 rwa [List.length_map] at k
theorem lvB_le : ∀ k, k ≤ 4 → lvB k ≤ 1785 := by decide
theorem sub_fit (h : RInv i rows) (hi : i ≤ 17) : ∀ (k j d : Nat) (r : Row), k ≤ 4 → rows[j]? = some r → rows.length ≤ j + k → k ≤ d → Fit d rows r ∧ (strOf d rows r).length ≤ 250000 := by
 intro k
 induction k with
 | zero => exact fun j d r _ hj hk _ => absurd (List.getElem?_eq_some_iff.mp hj).1 (Nat.not_lt.mpr hk)
 | succ k IH =>
  intro j d r h4 hj hk hd
  obtain _ | d := d
  ·exact absurd hd (Nat.not_succ_le_zero _)
  have hm := List.mem_of_getElem? hj
  have ri := h.each j r hj
  refine ⟨⟨h.rowOk hi hm, fun p hp q => ?_⟩, ?_⟩
  ·obtain ⟨a, b, c⟩ := ri.ch p hp q
   have hp1 : rows[p.1]? = some rows[p.1] := List.getElem?_eq_getElem c
   obtain ⟨f1, f2⟩ := IH p.1 d _ (by omega) hp1 (by omega) (by omega)
   exact ⟨_, hp1, f1, f2⟩
  ·obtain ⟨d1, d2⟩ := sub_len h hi (k + 1) j (d + 1) r ⟨[], some r, [], []⟩ hj hk hd rfl
   have := str_le h (nd := ⟨[], some r, [], []⟩) rfl (h.lg hm) rfl rfl d1
   have := lvB_le (k + 1) h4
   omega
structure WG (rows : List Row) (w : Row) : Prop where
 lg : LG w
 ok : RowOk w
 ch : ∀ p ∈ w.rules, p.1 > 0 → 2 ≤ p.1 ∧ p.1 < rows.length
 tot : w.agents.length + w.rules.length ≤ 54
 cl : chL w.rules ≤ 8
noncomputable def rootN (w : Row) : Nd := ⟨[], some w, lit "", []⟩
theorem root_ok (h : RInv i rows) (hi : i ≤ 17) {w : Row} (hw : WG rows w) : Dp 7 rows (rootN w) ∧ (lvN 7 rows (rootN w)).length ≤ 14400 ∧ Fit 7 rows w := by
 have hh := h.b.high
 have sub : ∀ p ∈ w.rules, ∀ nd : Nd, p.1 > 0 → nd.row = rows[p.1]? → Dp 6 rows nd ∧ (lvN 6 rows nd).length ≤ lvB 4 := fun p hp nd q e => by
  obtain ⟨b, c⟩ := hw.ch p hp q
  have hp1 : rows[p.1]? = some rows[p.1] := List.getElem?_eq_getElem c
  exact sub_len h hi 4 p.1 6 _ nd hp1 (by omega) (by decide) (e.trans hp1)
 have e4 : lvB 4 = 1785 := by decide
 refine ⟨dp_succ rfl fun p hp nd q e => (sub p hp nd q e).1, ?_, hw.ok, fun p hp q => ?_⟩
 ·have : (lvN 7 rows (rootN w)).length ≤ w.agents.length + w.rules.length + 3 + chL w.rules * lvB 4 := len_succ (nd := rootN w) (B := lvB 4) rfl fun p hp nd q e => Nat.le_succ_of_le (sub p hp nd q e).2
  have h1 := hw.tot
  have : chL w.rules * lvB 4 ≤ 8 * lvB 4 := Nat.mul_le_mul_right _ hw.cl
  omega
 ·obtain ⟨b, c⟩ := hw.ch p hp q
  have hp1 : rows[p.1]? = some rows[p.1] := List.getElem?_eq_getElem c
  obtain ⟨f1, f2⟩ := sub_fit h hi 4 p.1 6 _ (by decide) hp1 (by omega) (by decide)
  exact ⟨_, hp1, f1, f2⟩
theorem chL_app (a b : List (Nat × W × W)) : chL (a ++ b) = chL a + chL b := by unfold chL; rw [List.filter_append, List.length_append]
theorem RInv.wg (h : RInv i rows) (hi : i ≤ 17) {r : Row} (hr : r ∈ rows) : WG rows r := by
 obtain ⟨j, hj⟩ := List.mem_iff_getElem?.mp hr
 have ri := h.each j r hj
 have := ri.tot
 have := h.ch4 hr
 exact ⟨h.lg hr, h.rowOk hi hr, fun p hp q => (ri.ch p hp q).2, by omega, by omega⟩
theorem RInv.whole (h : RInv i rows) (hi : i ≤ 17) {r1 r2 : Row} (h1 : r1 ∈ rows) (h2 : r2 ∈ rows) : WG rows (wholeP r1 r2) := by
 have a := h.wg hi h1
 have b := h.wg hi h2
 have app : ∀ {α : Type} {P : α → Prop} {l m : List α}, (∀ x ∈ l, P x) → (∀ x ∈ m, P x) → ∀ x ∈ l ++ m, P x := fun p q x hx => (List.mem_append.mp hx).elim (p x) (q x)
 have fl : ∀ {P : W × W → Prop}, (∀ x ∈ r1.agents, P x) → ∀ x ∈ (wholeP r1 r2).agents, P x := fun p x hx => p x ((List.mem_filter.mp hx).1)
 have fll : (wholeP r1 r2).agents.length ≤ r1.agents.length := List.length_filter_le ..
 have rb1 := h.b.each r1 h1
 have rb2 := h.b.each r2 h2
 have x1 := rb1.agents; have x2 := rb1.rules; have x3 := rb2.rules; have x4 := rb1.delays; have x5 := rb2.delays; have x6 := rb1.rates; have x7 := rb2.rates
 have er : (wholeP r1 r2).rules.length = r1.rules.length + r2.rules.length := List.length_append
 have ed : (wholeP r1 r2).delays.length = r1.delays.length + r2.delays.length := List.length_append
 have et : (wholeP r1 r2).rates.length = r1.rates.length + r2.rates.length := List.length_append
 have c1 := h.ch4 h1
 have c2 := h.ch4 h2
 have ec : chL (wholeP r1 r2).rules = _ := chL_app r1.rules r2.rules
 refine ⟨⟨⟨fl a.lg.good.agents, app a.lg.good.rules b.lg.good.rules, app a.lg.good.delays b.lg.good.delays, app a.lg.good.rates b.lg.good.rates⟩, fl a.lg.al, app a.lg.rl b.lg.rl⟩,
  ⟨fl a.ok.agents, app a.ok.delays b.ok.delays, app a.ok.rates b.ok.rates, app a.ok.rules b.ok.rules, ⟨by omega, by omega⟩, by omega, by omega⟩, app a.ch b.ch, by omega, by omega⟩
theorem wholes_mem {w : Row} (h : w ∈ wholesP rows) : ∃ r1 ∈ rows, ∃ r2 ∈ rows, w = wholeP r1 r2 := by
 obtain ⟨p, _, e⟩ := List.mem_filterMap.mp h
 obtain ⟨r1, r2, e1, e2, e⟩ := pairR_some e
 exact ⟨r1, List.mem_of_getElem? e1, r2, List.mem_of_getElem? e2, e⟩
theorem RInv.page (h : RInv i rows) (hi : i ≤ 17) {w : Row} (hw : w ∈ wholesP rows ++ rows.take 3) : WG rows w := by
 rcases List.mem_append.mp hw with hw | hw
 ·obtain ⟨r1, h1, r2, h2, rfl⟩ := wholes_mem hw
  exact h.whole hi h1 h2
 ·exact h.wg hi (List.mem_of_mem_take hw)
theorem RInv.rowsOk (h : RInv i rows) (hi : i ≤ 17) : RowsOk rows := by
 refine ⟨fun r hr => h.rowOk hi hr, fun r hr p hp => ?_, by have := h.b.high; omega⟩
 obtain ⟨j, hj⟩ := List.mem_iff_getElem?.mp hr
 by_cases q : p.1 > 0
 ·exact ((h.each j r hj).ch p hp q).2.2
 ·have := h.b.low; omega
theorem RInv.inj (h : RInv i rows) : ∀ r1 ∈ rows, ∀ r2 ∈ rows, ∀ a ∈ r1.agents, ∀ b ∈ r2.agents, a.1 = b.1 → a = b := fun r1 h1 r2 h2 a ha b hb e => ((h.lg h1).good.agents a ha).inj ((h.lg h2).good.agents b hb) e
noncomputable def linesP (rows : List Row) (w : Row) : List (W × List W) := lvN 7 rows (rootN w)
structure Page (rows : List Row) (w : Row) : Prop where
 ok : RowOk w
 ch : ∀ p ∈ w.rules, p.1 < rows.length
 run : ∃ n, runH rows n [([], ⟨[], some w, lit "", []⟩)] [] = some (linesP rows w)
 fit : Fit 7 rows w
 str : strOf 7 rows w = joinW (lit "\n") ((linesP rows w).map (·.1))
 lex : Lxs .sp (strOf 7 rows w) ((linesP rows w).flatMap (·.2))
 len : (strOf 7 rows w).length ≤ 1000000
 cnt : (linesP rows w).length ≤ 14400
 two : ∀ l ∈ linesP rows w, l.1.length ≤ 37 ∧ l.2.length ≤ 2
theorem RInv.pageOk (h : RInv i rows) (hi : i ≤ 17) {w : Row} (hw : w ∈ wholesP rows ++ rows.take 3) : Page rows w := by
 have wg := h.page hi hw
 obtain ⟨d1, d2, d3⟩ := root_ok h hi wg
 have hs : strOf 7 rows w = joinW (lit "\n") ((linesP rows w).map (·.1)) := strOf_lv 7 (rootN w) w rfl rfl d1
 refine ⟨wg.ok, fun p hp => ?_, run_root d1 (by decide) (Nat.le_trans d2 (by decide)), d3, hs, ?_, ?_, d2, ?_⟩
 ·by_cases q : p.1 > 0
  ·exact (wg.ch p hp q).2
  ·have := h.b.low; omega
 ·rw [hs]
  exact lex_lines _ (lvN_good (fun r hr => (h.lg hr).good) 7 (rootN w) ⟨leaf_nil, fun r e => by cases e; exact wg.lg.good⟩)
 ·have := str_le h (nd := rootN w) rfl wg.lg rfl rfl d1
  omega
 ·exact lvN_all (rows := rows) (P := SmallL) (G := LG) (fun r hr nd hn => kids_small (fun r hr => h.lg hr) hr hn) 7 (rootN w) ⟨Nat.zero_le _, Nat.zero_le _⟩ fun r' e => by cases e; exact wg.lg
theorem rows3 (ns : List Int) : 3 ≤ (rowsOf (7 :: ns)).length := by
 have mono : ∀ (ns : List Int) {i : Nat} {rows : List Row}, RInv i rows → rows.length ≤ (ns.foldl rowStep rows).length := by
  intro ns
  induction ns with
  | nil => intro i rows _; exact Nat.le_refl _
  | cons n ns ih =>
   intro i rows h
   refine Nat.le_trans ?_ (ih (rowStep_inv h n))
   unfold rowStep
   split
   ·exact Nat.le_refl _
   ·rw [List.length_append, List.length_set]; omega
 exact Nat.le_trans (by decide) (mono ns (rowStep_inv rows0_inv 7))
end
end
end
section
set_option maxHeartbeats 4000000
noncomputable section
section
variable {c : Cx} {L : AL} {H : AH} {Q : AV → AH → Prop}
noncomputable def strEq : AV → AV → Bool
 | .str x, .str y => x == y
 | _, _ => false
theorem strEq_W {H : AH} {ws : List W} : ∀ a b, a ∈ wds ws → b ∈ wds ws → EqW 0 H a b (strEq a b) := fun a b ha hb => by
 unfold wds at ha hb
 obtain ⟨x, _, rfl⟩ := List.mem_map.mp ha
 obtain ⟨y, _, rfl⟩ := List.mem_map.mp hb
 have e : strEq (.str (S x)) (.str (S y)) = (x == y) := S_beq x y
 rw [e]
 exact EqW.str x y
theorem strEq_all : ∀ ws : List W, allEq (wds ws) (wds ws) strEq = true
 | [] => rfl
 | w :: ws => by
  show (S w == S w && allEq (wds ws) (wds ws) strEq) = true
  rw [strEq_all ws, beq_self_eq_true]; rfl
theorem CmpW.eqWds {la lb : Addr} {ws : List W} {P : Bool → AH → Prop} (ha : H la = some (.list (wds ws))) (hb : H lb = some (.list (wds ws))) (h : P true H) : CmpW c .Eq (.ref la) (.ref lb) L H P :=
 CmpW.eqL (n := 0) (by decide) strEq ha hb strEq_W (by rw [strEq_all]; exact h)
theorem CmpW.neWds {la lb : Addr} {ws : List W} {P : Bool → AH → Prop} (ha : H la = some (.list (wds ws))) (hb : H lb = some (.list (wds ws))) (h : P false H) : CmpW c .NotEq (.ref la) (.ref lb) L H P :=
 CmpW.neL (n := 0) (by decide) strEq ha hb strEq_W (by rw [strEq_all]; exact h)
theorem sum_le37 : ∀ (ws : List W), (∀ w ∈ ws, w.length ≤ 37) → (ws.map (·.length)).sum + ws.length * (lit "\n").length ≤ 38 * ws.length
 | [], _ => Nat.zero_le _
 | w :: ws, h => by
  have := sum_le37 ws fun x hx => h x (.tail _ hx)
  have h1 := h w (.head _)
  have e : (lit "\n").length = 1 := by decide
  rw [e] at this ⊢
  rw [List.map_cons, List.sum_cons, List.length_cons]
  omega
noncomputable def nums0 : List Int := [7, 12, 10881, 54, 265, 270, 10]
theorem law_walk {d : Dy} {sc : Addr} {ns : List Int} (hroom : 60 ≤ d.room) (hout : d.outer = []) (hcomp : d.comp = false) (hbase : Base ⟨d, (fScope (topS 42)).names, []⟩) (hs : ∀ L H R s, Sim ⟨d, (fScope (topS 42)).names, []⟩ L H R s → ∃ vs, VRels (ns.map .int) vs ∧ s.heap.IsList sc vs.toArray) (hn : ns.length ≤ 1000) :
  SS ⟨d, (fScope (topS 42)).names, []⟩ (fBody (topS 42)) (bindA [o "script"] [.ref sc]) H fun f _ _ => f = .ret (.bool true) := by
 obtain ⟨Q, hQ⟩ : ∃ Q : AF → AL → AH → Prop, Q = fun f _ _ => f = .ret (.bool true) := ⟨_, rfl⟩
 rw [← hQ]
 conv in fBody _ => whnf
 generalize hL0 : bindA [o "script"] [.ref sc] = L0
 have l0 : L0 (o "script") = some (.ref sc) := by rw [← hL0]; rfl
 clear hL0
 repeat walk_at "f"
 refine ⟨by decide, fun a h1 => ?_⟩
 refine EW.subToG (k := 10) ?_
 refine EW.name (by with_unfolding_all rfl) l0 ?_
 refine ⟨sc, _, rfl, hs _ _, by rw [List.length_map]; exact leD hn tt, fun b h2 => ?_⟩
 refine OpW.addL (hset_old h2 (hset_same _ _ _)) (hset_same _ _ _) (by simp; omega) fun e h3 => ?_
 have ee : [AV.int 7, .int 12, .int 10881, .int 54, .int 265, .int 270, .int 10] ++ (ns.map AV.int).take 10 = (nums0 ++ ns.take 10).map .int := by rw [List.map_append, List.map_take]; rfl
 rw [ee]
 have ge := hset_same (hset (hset H a (.list [AV.int 7, .int 12, .int 10881, .int 54, .int 265, .int 270, .int 10])) b (.list ((ns.map AV.int).take 10))) e (.list ((nums0 ++ ns.take 10).map .int))
 generalize hset (hset (hset H a (.list [AV.int 7, .int 12, .int 10881, .int 54, .int 265, .int 270, .int 10])) b (.list ((ns.map AV.int).take 10))) e (.list ((nums0 ++ ns.take 10).map .int)) = H1 at ge
 have hlen : (nums0 ++ ns.take 10).length ≤ 17 := by rw [List.length_append, List.length_take]; exact addD (a := 7) (Nat.le_refl _) (Nat.min_le_left ..) tt
 have inv := rowsOf_inv (nums0 ++ ns.take 10)
 have h3r : 3 ≤ (rowsOf (nums0 ++ ns.take 10)).length := rows3 _
 repeat walk_at "f"
 refine (CallKW.toCall (CodeW.toKW (c843 (c := ⟨d, (fScope (topS 42)).names, []⟩) (by first | exact room_le hroom hrm tt | exact room_le hroom hr tt | (show 3 ≤ d.room; omega)) ge (by omega)))).mono fun v H2 h2 => ?_
 obtain ⟨k2, hrows⟩ := h2
 generalize hrw : rowsOf (nums0 ++ ns.take 10) = rows at inv h3r hrows
 generalize (nums0 ++ ns.take 10).length = n17 at inv hlen
 clear ge ee h1 h2 h3 hs l0 k2 H1 hrw
 have hpg : ∀ w ∈ wholesP rows ++ rows.take 3, Page rows w := fun w hw => inv.pageOk hlen hw
 have hok := inv.rowsOk hlen
 have h6 := inv.b.high
 repeat walk_at "f"
 refine (CallKW.toCall (CodeW.toKW (c874 (c := ⟨d, (fScope (topS 42)).names, []⟩) (by first | exact room_le hroom hrm tt | exact room_le hroom hr tt | (show 5 ≤ d.room; omega)) hrows hok h3r (linesP rows) fun w hw => ⟨(hpg w hw).ok, (hpg w hw).ch, (hpg w hw).run⟩))).mono fun due H3 h3 => ?_
 obtain ⟨k3, dl, dvs, rfl, gdl, hdl⟩ := h3
 repeat walk_at "f"
 refine (CallKW.toCall (CodeW.toKW (c848 (c := ⟨d, (fScope (topS 42)).names, []⟩) (by first | exact room_le hroom hrm tt | exact room_le hroom hr tt | (show 4 ≤ d.room; omega)) (hrows.mono k3) hok))).mono fun recs H4 h4 => ?_
 obtain ⟨k4, hrecs⟩ := h4
 repeat walk_at "f"
 refine (CallKW.toCall (CodeW.toKW (c879 (c := ⟨d, (fScope (topS 42)).names, []⟩) (n := 7) (Nat.le_trans (by decide) hroom) hrecs h3r (by omega) hok.1 (fun w hw => (hpg w hw).fit) inv.inj))).mono fun told H5 h5 => ?_
 obtain ⟨k5, tl, rfl, gtl⟩ := h5
 repeat walk_at "f"
 have hPW : (wholesP rows ++ rows.take 3).length ≤ 7 := by
  rw [List.length_append, List.length_take]
  exact addD (a := 4) (Nat.le_trans (List.length_filterMap_le ..) (by decide)) (Nat.min_le_left ..) tt
 obtain ⟨w0, hw0⟩ : ∃ w0, (wholesP rows ++ rows.take 3)[0]? = some w0 := ⟨_, List.getElem?_eq_getElem (by rw [List.length_append, List.length_take, Nat.min_eq_left h3r]; exact Nat.lt_of_lt_of_le (by decide) (Nat.le_add_left 3 _))⟩
 generalize wholesP rows ++ rows.take 3 = PW at hpg hdl gtl hPW hw0
 have gtl' : H5 tl = some (.list (wds (PW.map (strOf 7 rows)))) := by unfold wds; rw [List.map_map]; exact gtl
 have gdl5 := k5 _ _ (k4 _ _ gdl)
 replace hdl : All2 (PageAt H5) dvs (PW.map (linesP rows)) := hdl.mono fun _ _ => PageAt.mono (k4.trans k5)
 have hdlen : dvs.length ≤ 7 := by rw [hdl.length, List.length_map]; exact hPW
 clear gtl k4 k5 hrecs hrows hok k3 gdl h3r h6 inv
 refine EW.comp (cl := []) (clo (by with_unfolding_all rfl)) ?_
 repeat walk_at "f"
 refine ⟨_, _, IterW.list gdl5, leD hdlen tt, LY H5 fun k => wds ((PW.take k).map (strOf 7 rows)), ⟨HLe.rfl, rfl⟩, fun k ys Hk h => h.1 _ _ gdl5, ?_, ?_⟩
 ·rintro d2 hrm2 _ k x ys L6 H6 hx Pk Pn hPk ⟨k6, rfl⟩
  obtain ⟨pg, hpk, y, ls, rfl, gy, hls⟩ := hdl.getL hx
  rw [List.getElem?_map] at hpk
  obtain ⟨w, hw, rfl⟩ := Option.map_eq_some_iff.mp hpk
  have pw := hpg w (List.mem_of_getElem? hw)
  have hll : ls.length ≤ 14400 := by rw [hls.length]; exact pw.cnt
  repeat walk_at "f"
  refine TestsW.nil ?_
  first | with_reducible refine if_t rfl ?_ | with_reducible refine IfK.t rfl ?_ | with_reducible refine IteK.t rfl ?_ | rw [if_pos rfl]
  refine EW.methB PySem.F.plainAttrs_str PySem.F.slot_str_join PySem.F.type_str_join ?_
  repeat walk_at "f"
  refine ⟨rfl, ?_⟩
  walk_at "f"
  refine EW.comp (cl := []) (clo (by with_unfolding_all rfl)) ?_
  repeat walk_at "f"
  refine ⟨_, _, IterW.list (k6 _ _ gy), leD hll tt, KY H6 fun j => wds (((linesP rows w).take j).map (·.1)), ⟨rfl, rfl⟩, fun j ys Hj h => by rw [h.1]; exact k6 _ _ gy, ?_, ?_⟩
  ·rintro d3 hrm3 _ j x ys L7 H7 hx Pk Pn hPk ⟨rfl, rfl⟩
   obtain ⟨l, hl, z, wa, rfl, gz, _⟩ := hls.getL hx
   repeat walk_at "f"
   refine TestsW.nil ?_
   first | with_reducible refine if_t rfl ?_ | with_reducible refine IfK.t rfl ?_ | with_reducible refine IteK.t rfl ?_ | rw [if_pos rfl]
   repeat walk_at "f"
   refine SbW.tup (k6 _ _ gz) (by decide) rfl (by exact Nat.le_of_ble_eq_true tt) ?_
   repeat walk_at "f"
   refine ⟨rfl, ?_⟩
   rw [List.take_add_one, hl, List.map_append]
   unfold wds
   rw [List.map_append]; rfl
  ·rintro ys H7 _ ⟨rfl, rfl⟩ D hD
   rw [hls.length, List.take_length]
   repeat walk_at "f"
   refine CallW.join (ws := (linesP rows w).map (·.1)) (hset_same _ _ _) ?_ ?_
   ·refine Nat.le_trans (sum_le37 _ fun v hv => ?_) ?_
    ·obtain ⟨l, hl, rfl⟩ := List.mem_map.mp hv
     exact (pw.two l hl).1
    ·rw [List.length_map]; exact leD (Nat.mul_le_mul_left 38 pw.cnt) tt
   repeat walk_at "f"
   refine ⟨k6.trans (HLe.new hD), ?_⟩
   rw [List.take_add_one, hw, List.map_append]
   unfold wds
   rw [List.map_append, ← pw.str]; rfl
 rintro ys H6 _ ⟨k6, rfl⟩ D hD
 rw [hdl.length, List.length_map, List.take_length]
 refine CmpW.neWds ((hset_ne fun q => ?_).trans (k6 _ _ gtl')) (hset_same _ _ _) ?_
 ·rw [← q, k6 _ _ gtl'] at hD; cases hD
 walk_at "fa"
 repeat walk_at "f"
 have k7 := k6.trans (HLe.new (o := .list (wds (PW.map (strOf 7 rows)))) hD)
 generalize hset H6 D (.list (wds (PW.map (strOf 7 rows)))) = H7 at k7
 have pw := hpg w0 (List.mem_of_getElem? hw0)
 refine EW.callKW ?_
 refine EW.gR (by with_unfolding_all rfl) (by walk_at "gl") ?_
 refine ⟨_, rfl, by walk_at "kp", ?_⟩
 repeat walk_at "f"
 refine SbW.list (k7 _ _ gtl') (by decide) (x := .str (S (strOf 7 rows w0))) (by unfold wds; rw [List.map_map, List.getElem?_map]; exact congrArg (Option.map _) hw0) (by unfold wds; rw [List.length_map, List.length_map]; exact leD hPW tt) ?_
 repeat walk_at "f"
 refine KS.one ?_
 repeat walk_at "f"
 have htk : ((linesP rows w0).flatMap (·.2)).length ≤ 28800 := by
  have key : ∀ ls : List (W × List W), (∀ l ∈ ls, l.2.length ≤ 2) → (ls.flatMap (·.2)).length ≤ 2 * ls.length := by
   intro ls
   induction ls with
   | nil => intro _; exact Nat.le_refl _
   | cons l ls ih =>
    intro h
    have := ih fun x hx => h x (.tail _ hx)
    have := h l (.head _)
    rw [List.flatMap_cons, List.length_append, List.length_cons]; omega
  have := key _ fun l hl => (pw.two l hl).2
  have := pw.cnt
  omega
 refine (CodeW.toKW (c821 (c := ⟨d, (fScope (topS 42)).names, []⟩) (by first | exact room_le hroom hrm tt | exact room_le hroom hr tt | (show 12 ≤ d.room; omega)) hcomp hout hbase pw.len (by omega) pw.lex)).mono fun v8 H8 h8 => ?_
 obtain ⟨k8, sp, rfl, gsp⟩ := h8
 have k58 := k7.trans k8
 obtain ⟨x0, hx0, y0, ls, rfl, gy, hls⟩ := hdl.getR (by rw [List.getElem?_map, hw0]; rfl : (PW.map (linesP rows))[0]? = some (linesP rows w0))
 have hll : ls.length ≤ 14400 := by rw [hls.length]; exact pw.cnt
 refine EW.comp2 (cl := []) (clo (by with_unfolding_all rfl)) ?_
 repeat walk_at "f"
 refine SbW.list (k58 _ _ gdl5) (by decide) hx0 (leD hdlen tt) ?_
 refine ⟨_, _, IterW.list (k58 _ _ gy), KY H8 fun k => wds (((linesP rows w0).take k).flatMap (·.2)), ⟨rfl, rfl⟩, fun k ys Hk h => by rw [h.1]; exact k58 _ _ gy, ?_, ?_⟩
 ·rintro d2 hrm2 _ k x ys L9 H9 hx ⟨rfl, rfl⟩
  obtain ⟨l, hl, z, wa, rfl, gz, gwa⟩ := hls.getL hx
  repeat walk_at "f"
  refine SbW.tup (k58 _ _ gz) (by decide) (x := .ref wa) rfl (by exact Nat.le_of_ble_eq_true tt) ?_
  refine ⟨_, _, IterW.list (k58 _ _ gwa), KY H9 fun j => wds (((linesP rows w0).take k).flatMap (·.2) ++ l.2.take j), ⟨rfl, by rw [List.take_zero, List.append_nil]⟩, fun k ys Hk h => by rw [h.1]; exact k58 _ _ gwa, ?_, ?_⟩
  ·rintro j x ys L10 H10 hx ⟨rfl, rfl⟩
   unfold wds at hx
   rw [List.getElem?_map] at hx
   obtain ⟨w, hw, rfl⟩ := Option.map_eq_some_iff.mp hx
   refine ⟨?_, ?_⟩
   ·have hsub : ((linesP rows w0).take k).flatMap (·.2) ++ l.2 <+: (linesP rows w0).flatMap (·.2) := by
     have e : (linesP rows w0) = (linesP rows w0).take k ++ l :: (linesP rows w0).drop (k + 1) := by
      have hk := (List.getElem?_eq_some_iff.mp hl).1
      rw [← (List.getElem?_eq_some_iff.mp hl).2, ← List.drop_eq_getElem_cons hk, List.take_append_drop]
     refine ⟨((linesP rows w0).drop (k + 1)).flatMap (·.2), ?_⟩
     conv => rhs; rw [e]
     rw [List.flatMap_append, List.flatMap_cons, List.append_assoc]
    have := hsub.length_le
    unfold wds
    rw [List.length_map, List.length_append, List.length_take]
    rw [List.length_append] at this
    omega
   ·repeat walk_at "f"
    refine ⟨rfl, ?_⟩
    rw [List.take_add_one, hw]
    unfold wds
    rw [List.map_append, List.map_append, List.map_append, List.append_assoc]; rfl
  ·rintro ys H10 ⟨rfl, rfl⟩
   refine ⟨rfl, ?_⟩
   unfold wds
   rw [List.length_map, List.take_length, List.take_add_one, hl, List.flatMap_append]
   congr 2
   exact (List.append_nil _).symm
 rintro ys H9 ⟨rfl, rfl⟩ D2 hD2
 rw [hls.length, List.take_length]
 refine CmpW.eqWds ((hset_ne fun q => ?_).trans gsp) (hset_same _ _ _) ?_
 ·rw [← q, gsp] at hD2; cases hD2
 repeat walk_at "f"
 rw [hQ]
end
end
end
section
set_option maxRecDepth 1000000
noncomputable section
theorem vrels_ints {vs : List Value} {ns : List Int} (h : IntsAre vs ns) : VRels (ns.map .int) vs := by
 induction h with
 | nil => exact .nil
 | cons n t _ ih => exact .cons ⟨t, rfl⟩ ih
theorem law_start {w : World} {s₁ : Shared} {mean : ExcName → Option Value} {mg mb : Str → Option Value} {fa cda sc : Addr} {h₁ : Heap} {tk : Nat} {vs : List Value} {ns : List Int} (KX : (Kf w.params).In s₁.heap) (T : Top qv (looseW qv lv) mean mg mb s₁.heap) (hg : s₁.gens = #[])
  (F : Fr s₁.heap s₁.heap.objs.size h₁ fun x => List.lookup x [(o "script", .ref sc)].reverse) (hL : s₁.heap.IsList sc vs.toArray) (hI : IntsAre vs ns) (hn : ns.length ≤ 1000) :
  wpAny (model prg w) (callerA.deeper (envOf (o "law") (fScope (topS 42)) s₁.heap.objs.size fa (.ref cda))) (execs (fBody (topS 42)) (envOf (o "law") (fScope (topS 42)) s₁.heap.objs.size fa (.ref cda)))
   (fun fl s' => fl = .ret (.bool true) ∧ (∀ b o, s₁.heap.get? b = some o → s'.heap.get? b = some o) ∧ s'.os = s₁.os ∧ s'.gens = #[]) nE { s₁ with heap := h₁, toks := tk } := by
 let d : Dy := { w := w, A := callerA.deeper (envOf (o "law") (fScope (topS 42)) s₁.heap.objs.size fa (.ref cda)), A₀ := callerA, base := s₁.heap, h₀ := s₁.heap, outer := [], env := envOf (o "law") (fScope (topS 42)) s₁.heap.objs.size fa (.ref cda), mg := mg, mb := mb, mean := mean, os := s₁.os, room := 400, comp := false, fenv := envOf (o "law") (fScope (topS 42)) s₁.heap.objs.size fa (.ref cda), fm := fun _ => none }
 have ok : d.Ok (fScope (topS 42)).names [] := ⟨below_caller _, KX, T, rfl, rfl, rfl, rfl, fun _ => rfl, (fun e => nomatch e), rfl, rfl, rfl, rfl, rfl, by show callerA.depth + 1 + 400 ≤ recursionLimit; decide, by show callerA.units + 3 + 20 * 400 ≤ 9000; decide⟩
 have S : Sim ⟨d, (fScope (topS 42)).names, []⟩ (bindA [o "script"] [.ref sc]) (fun _ => none) [] { s₁ with heap := h₁, toks := tk } := by
  refine ⟨ok, ⟨_, F, fun x av e => ?_⟩, (fun _ h => nomatch h), (fun a ao e => nomatch e), ⟨[], fun a h => absurd rfl h⟩, (fun _ h => nomatch h), hg, rfl, (fun e => nomatch e)⟩
  rcases bindA_rel (ns := [o "script"]) (bas := [.ref sc]) (bv := [.ref sc]) (.cons (a := .ref sc) rfl .nil) x with ⟨e1, _⟩ | ⟨a, v, e1, e2, r⟩
  ·rw [e1] at e; cases e
  ·rw [e1] at e; cases e; exact ⟨v, e2, r⟩
 refine (law_walk (d := d) (H := fun _ => none) (sc := sc) (ns := ns) (by show 60 ≤ 400; decide) rfl rfl ⟨KX, T⟩ (fun L H R s S => ?_) hn).run S fun f af L' H' s' hf S' q => ?_
 ·obtain ⟨m, F', _⟩ := S.fr
  refine ⟨vs, vrels_ints hI, ?_⟩
  obtain ⟨ob, g, r⟩ := hL
  exact ⟨ob, F'.keep _ _ g, r⟩
 ·subst q
  obtain ⟨v, rfl, hv⟩ := hf
  cases hv
  obtain ⟨m, F', _⟩ := S'.fr
  exact ⟨rfl, F'.keep, S'.os, S'.gens⟩
theorem tst : PySem.Challenge.rw_oy0424_01.Holds := by
 w_on
 refine holds_law ws fun said => ?_
 refine holds_open (q := qv) (loose := lv) (Xt := Xt) (XP := XL qv []) (Yf := Hook.obs H) (Ya := Hook.val H) (YP := Hook.says H) (N := 11408) left0 (Hook.of H) (Hook.keeps H) (fun s e => xl_of s (Bool.and_eq_true_iff.mp e).1) XL.keeps (by rfl) (by rfl) (by rfl) (fun s e => recFacts_of (Bool.and_eq_true_iff.mp e).2) (by rfl) said (by decide +kernel) ⟨rfl, rfl, rfl, rfl, rfl, by decide +kernel⟩ ?hw ?hc
 case hw => w_witness2
 intro w s₀ s₁ mg mb G Y fa o pm cd doc dV kV ho hd hcd hD hmg hg args vals as hpre hlay hrd hwl hlo
 have KX := kIn_of Y
 have X := (Ground.X G).1
 have V := (Ground.X G).2
 refine Ground.open G ?_
 intro T B D TE TW
 try (refine guard_noD D (by decide +kernel) ?_; clear D)
 obtain ⟨_, _, M⟩ := bmod_of_top T
 have TA := at_of_top T
 try (obtain ⟨_, _, he, B0⟩ := based_of_top T rfl hmg ho hd; have he' : cd = _ := he; subst he'; clear he)
 clear hmg
 wrow_args hpre hlay hrd hwl hlo
 first | refine callC_kw (enter_call ?_) | refine enter_call ?_ | refine callC_kw (enter_callW ?_) | refine enter_callW ?_
 w_top on
 try refine codeAny_mono ?_ (fun _ _ g => GoodW.toG g)
 have K0 := below_caller (Top.heap T)
 w_call any ho hd hcd hD T F
 clear hd TA
 k_drop
 refine wpAny_mono (law_start KX (by assumption) hg (by assumption) (by assumption) (by assumption) (by omega)) (fun fl s' h => ?_) fun _ _ x => x.elim
 obtain ⟨rfl, h1, h2, h3⟩ := h
 refine ⟨.inl ⟨.bool true, .bool true, [], rfl, fun cls => rfl, .bool true, ?_, fun _ => ⟨.nil, fun a h => nomatch h⟩⟩, h1, h2, h3⟩
 first | kernel_rfl | with_unfolding_all rfl | (show (_ && _) = true; exact Bool.and_eq_true_iff.mpr ⟨by kernel_rfl, by with_unfolding_all rfl⟩)
end
end
end Mine.Internal
theorem PySem.Challenge.cw_oy0424_01_holds : PySem.Challenge.rw_oy0424_01.Holds :=
 Mine.Internal.tst
