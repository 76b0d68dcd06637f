import PyProof.Rows.All
import Wide.All
import OpenK.AllK
import Wide.FinOn
import PySem.Challenge.RW_in0077_01
open PySem PySem.Spec PySem.Calls PySem.W PyProof.Rows
set_option Elab.async false
set_option maxRecDepth 100000
set_option maxHeartbeats 8000000
set_option compiler.extract_closed false
namespace Mine
noncomputable def treeOf : List Obj → BT → Nat → Option BT
  | [], t, _ => some t
  | o :: r, t, n => match ((t.ins n o).get n).isSome with
    | true => treeOf r (t.ins n o) (n + 1)
    | false => none
theorem treeOf_abs {life : Life} : ∀ (l : List Obj) (t : BT) (n : Nat) (t' : BT), treeOf l t n = some t' → absHeap t' (n + l.length) life = ⟨(absHeap t n life).objs ++ l.toArray, life⟩
  | [], t, n, t', h => by
    obtain rfl : t = t' := by simpa [treeOf] using h
    simp [absHeap]
  | o :: r, t, n, t', h => by
    unfold treeOf at h
    cases e : ((t.ins n o).get n).isSome with
    | false => rw [e] at h; cases h
    | true =>
      rw [e] at h
      have ih := treeOf_abs (life := life) r _ _ _ h
      rw [List.length_cons, show n + (r.length + 1) = n + 1 + r.length by omega, ih, absHeap_ins e]
      show Heap.mk _ _ = Heap.mk _ _
      congr 1
      show (absHeap t n life).objs.push o ++ r.toArray = _
      simp
noncomputable def sharedT (s : Shared) : Option SharedT := (treeOf s.heap.objs.toList .nil 0).map fun t => ⟨t, s.heap.objs.size, s.heap.life, s.gens, s.drawn, s.toks, s.os⟩
theorem sharedT_abs {s : Shared} {t : SharedT} (h : sharedT s = some t) : t.abs = s := by
  obtain ⟨t', h1, rfl⟩ := Option.map_eq_some_iff.mp h
  have := treeOf_abs (life := s.heap.life) _ _ _ _ h1
  obtain ⟨⟨objs, life⟩, gens, drawn, toks, os⟩ := s
  show Shared.mk (absHeap t' _ _) _ _ _ _ = _
  rw [Nat.zero_add, Array.length_toList] at this
  dsimp only at this ⊢
  rw [this]
  congr 1
  show Heap.mk _ _ = Heap.mk _ _
  congr 1
  simp [absHeap, BT.list]
noncomputable def importEndsT (tb : String → Option Builtin) (p : Program) (w : World) : Nat → SharedT → Thread → Option SharedT
  | 0, _, _ => none
  | n + 1, s, t => match t.atExitBegin with
    | some [] => some s
    | some _ => none
    | none => match stepT (denote tb) p w s t with
      | some (s', t') => importEndsT tb p w n s' t'
      | none => none
theorem importEndsT_of {tb : String → Option Builtin} {p : Program} {w : World} : ∀ {n : Nat} {s s' : SharedT} {t : Thread}, importEndsT tb p w n s t = some s' → importEnds tb p w n s.abs t = some s'.abs
  | 0, _, _, _, h => by cases h
  | n + 1, s, s', t, h => by
    unfold importEndsT at h
    unfold importEnds
    cases he : t.atExitBegin with
    | some l => rw [he] at h; cases l <;> (first | (cases h; rfl) | cases h)
    | none =>
      rw [he] at h
      cases hs : stepT (denote tb) p w s t with
      | none => rw [hs] at h; cases h
      | some r => obtain ⟨s₂, t₂⟩ := r; rw [hs] at h; dsimp only; rw [stepT_spec hs]; exact importEndsT_of h
noncomputable def topRunT (tb : String → Option Builtin) (p : Program) (w : World) (n₀ : Nat) (ann : Option Value) : Nat → SharedT → Thread → Option SharedT
  | 0, _, _ => none
  | n + 1, s, t => match through t with
    | true => some s
    | false => match stepOk n₀ ann t with
      | false => none
      | true => match stepT (denote tb) p w s t with
        | some (s', t') => topRunT tb p w n₀ ann n s' t'
        | none => none
theorem topRunT_of {tb : String → Option Builtin} {p : Program} {w : World} {n₀ : Nat} {ann : Option Value} : ∀ {n : Nat} {s s' : SharedT} {t : Thread}, topRunT tb p w n₀ ann n s t = some s' → topRun tb p w n₀ ann n s.abs t = some s'.abs
  | 0, _, _, _, h => by cases h
  | n + 1, s, s', t, h => by
    unfold topRunT at h
    unfold topRun
    cases ht : through t with
    | true => rw [ht] at h; cases h; rfl
    | false =>
      rw [ht] at h
      cases hk : stepOk n₀ ann t with
      | false => rw [hk] at h; cases h
      | true =>
        rw [hk] at h
        cases hs : stepT (denote tb) p w s t with
        | none => rw [hs] at h; cases h
        | some r => obtain ⟨s₂, t₂⟩ := r; rw [hs] at h; dsimp only; rw [stepT_spec hs]; exact topRunT_of h
noncomputable def topFromT (tb : String → Option Builtin) (p : Program) (w : World) (N : Nat) (z : SharedT) : Option SharedT :=
  match z.abs.heap.isNs mainGlobals && z.gens.size == 0 with
  | true => (topRunT tb p w z.n (z.abs.heap.nsMap mainGlobals "__annotations__") N z (topStub p)).bind fun y => match staticsOk (importedModules p.main.body) z.abs.heap y.abs.heap && namesBound p y.abs.heap && gensDone y.abs && laidKept z.abs.heap y.abs.heap with
      | true => some y
      | false => none
  | false => none
theorem topFromT_of {tb : String → Option Builtin} {p : Program} {w : World} {N : Nat} {z y : SharedT} (h : topFromT tb p w N z = some y) : topFrom tb p w N z.abs = some y.abs := by
  unfold topFromT at h
  unfold topFrom
  have eg : z.abs.gens = z.gens := rfl
  have en : z.abs.heap.objs.size = z.n := absHeap_size _ _ _
  rw [eg, en]
  cases e : (z.abs.heap.isNs mainGlobals && z.gens.size == 0) with
  | false => rw [e] at h; cases h
  | true =>
    rw [e] at h
    obtain ⟨y', h1, h2⟩ := Option.bind_eq_some_iff.mp h
    dsimp only
    rw [topRunT_of h1]
    show (match staticsOk _ _ y'.abs.heap && _ && _ && _ with | true => some y'.abs | false => none) = _
    split at h2
    · cases h2; rfl
    · cases h2
noncomputable def openEndsT (tb : String → Option Builtin) (p : Program) (w : World) (N : Nat) : Option SharedT :=
  (sharedT (start (opening p)).1).bind fun a => (importEndsT tb (opening p) w N a (start (opening p)).2).bind fun b => (fenceModules? p b.abs).bind fun c => (sharedT c).bind fun z => topFromT tb p w N z
theorem openEndsT_of {tb : String → Option Builtin} {p : Program} {w : World} {N : Nat} {y : SharedT} (h : openEndsT tb p w N = some y) : openEnds tb p w N = some y.abs := by
  obtain ⟨a, h1, h⟩ := Option.bind_eq_some_iff.mp h
  obtain ⟨b, h2, h⟩ := Option.bind_eq_some_iff.mp h
  obtain ⟨c, h3, h⟩ := Option.bind_eq_some_iff.mp h
  obtain ⟨z, h4, h⟩ := Option.bind_eq_some_iff.mp h
  have i := importEndsT_of h2
  rw [sharedT_abs h1] at i
  have q := topFromT_of h
  rw [sharedT_abs h4] at q
  unfold openEnds fencedOpening
  rw [i]
  show (fenceModules? p b.abs).bind _ = _
  rw [h3]
  exact q
theorem left_of {p q : Program} {loose : List Str} {Xt : Shared → Bool} {α : Type} {Yf : Shared → α} {Ya : World → α} {N : Nat} {g0 : Bool}
    (h : ∀ w, (openEndsT treeTable p w N).map (fun y => (openSeen q loose (importedModules p.main.body) Xt g0 y.abs, Yf y.abs)) = some (openGood q loose, Ya w)) : LeftO p q loose Xt Yf Ya N g0 := fun w => by
  obtain ⟨y, h1, h2⟩ := Option.map_eq_some_iff.mp (h w)
  rw [openEndsT_of h1]
  exact congrArg some h2
noncomputable abbrev pw : Program := PySem.Challenge.pw_in0077_01
noncomputable def stAt : List Stmt → Nat → Stmt
  | [], _ => .Pass default
  | s :: _, 0 => s
  | _ :: r, n + 1 => stAt r n
noncomputable def clsBody : Stmt → List Stmt
  | .ClassDef _ _ _ b _ _ _ _ _ _ _ => b
  | _ => []
noncomputable def fnAt (b : List Stmt) : List Nat → Stmt
  | [] => .Pass default
  | [i] => stAt b i
  | i :: r => fnAt (clsBody (stAt b i)) r
noncomputable def defArgs : Stmt → Arguments
  | .FunctionDef _ a _ _ _ _ _ _ _ _ => a
  | _ => { posonlyargs := [], args := [], vararg := none, kwonlyargs := [], kw_defaults := [], kwarg := none, defaults := [] }
noncomputable def defBody : Stmt → List Stmt
  | .FunctionDef _ _ b _ _ _ _ _ _ _ => b
  | _ => []
noncomputable def defScope : Stmt → Scope
  | .FunctionDef _ _ _ _ _ _ s _ _ _ => s
  | _ => { kind := .function, names := [], isGenerator := false, isCoroutine := false }
noncomputable def fnP (l : List Nat) : Arguments := defArgs (fnAt pw.main.body l)
noncomputable def fnB (l : List Nat) : List Stmt := defBody (fnAt pw.main.body l)
noncomputable def fnS (l : List Nat) : Scope := defScope (fnAt pw.main.body l)
noncomputable def K (P : Params) : Frag :=
  (nat_lit 2, ⟨.none, none, .dict #[⟨PyData.keyHash P (Str.ofString "\x69mport.loaded._sre"), .str (Str.ofString "\x69mport.loaded._sre") (nat_lit 183), .bool true⟩, ⟨PyData.keyHash P (Str.ofString "class._frozen_importlib.BuiltinImporter"), .str (Str.ofString "class._frozen_importlib.BuiltinImporter") (nat_lit 185), .ref (nat_lit 14)⟩, ⟨PyData.keyHash P (Str.ofString "watched.\x69mport"), .str (Str.ofString "watched.\x69mport") (nat_lit 206), .ref (nat_lit 18)⟩, ⟨PyData.keyHash P (Str.ofString "class._frozen_importlib.ModuleSpec"), .str (Str.ofString "class._frozen_importlib.ModuleSpec") (nat_lit 216), .ref (nat_lit 22)⟩, ⟨PyData.keyHash P (Str.ofString "sys.modules.booked-epoch"), .str (Str.ofString "sys.modules.booked-epoch") (nat_lit 245), .int (4) (nat_lit 0)⟩, ⟨PyData.keyHash P (Str.ofString "\x69mport.later-laid._sre"), .str (Str.ofString "\x69mport.later-laid._sre") (nat_lit 270), .bool true⟩, ⟨PyData.keyHash P (Str.ofString "watched.library"), .str (Str.ofString "watched.library") (nat_lit 272), .ref (nat_lit 27)⟩, ⟨PyData.keyHash P (Str.ofString "watched.library-objects"), .str (Str.ofString "watched.library-objects") (nat_lit 0), .str (Str.ofString "\x0c\x1e") (nat_lit 0)⟩, ⟨PyData.keyHash P (Str.ofString "watched.library-deep._sre"), .str (Str.ofString "watched.library-deep._sre") (nat_lit 273), .str (Str.ofString "\x04\x00\x00\x0b\x04\x00\x00\x0b\x04\x00\x00\x03\x04\x00\x00\x0b\x08\x04dict\x02") (nat_lit 0)⟩, ⟨PyData.keyHash P (Str.ofString "\x69mport.loaded._collections"), .str (Str.ofString "\x69mport.loaded._collections") (nat_lit 280), .bool true⟩, ⟨PyData.keyHash P (Str.ofString "sys.modules.landed._collections"), .str (Str.ofString "sys.modules.landed._collections") (nat_lit 294), .bool true⟩, ⟨PyData.keyHash P (Str.ofString "\x69mport.later-laid._collections"), .str (Str.ofString "\x69mport.later-laid._collections") (nat_lit 309), .bool true⟩, ⟨PyData.keyHash P (Str.ofString "watched.library-deep._collections"), .str (Str.ofString "watched.library-deep._collections") (nat_lit 311), .str (Str.ofString "\x04\x00\x00\x1d\x04\x00\x00\x1d\x04\x00\x00\x03\x04\x00\x00\x1d\x08\x04dict\x02") (nat_lit 0)⟩, ⟨PyData.keyHash P (Str.ofString "type.__subclasses__.OSError.0"), .str (Str.ofString "type.__subclasses__.OSError.0") (nat_lit 426), .int (87) (nat_lit 0)⟩, ⟨PyData.keyHash P (Str.ofString "type.__subclasses__.OSError.n"), .str (Str.ofString "type.__subclasses__.OSError.n") (nat_lit 427), .int (1) (nat_lit 0)⟩] (nat_lit 15), #[]⟩) ::
  (nat_lit 3, ⟨.type "dict", none, .dict #[⟨PyData.keyHash P (Str.ofString "__name__"), .str (Str.ofString "__name__") (nat_lit 165), .str (Str.ofString "law_in0077_01") (nat_lit 1290)⟩, ⟨PyData.keyHash P (Str.ofString "__doc__"), .str (Str.ofString "__doc__") (nat_lit 166), .none⟩, ⟨PyData.keyHash P (Str.ofString "__package__"), .str (Str.ofString "__package__") (nat_lit 167), .none⟩, ⟨PyData.keyHash P (Str.ofString "__loader__"), .str (Str.ofString "__loader__") (nat_lit 168), .builtin "__main__.__loader__#opaque"⟩, ⟨PyData.keyHash P (Str.ofString "__spec__"), .str (Str.ofString "__spec__") (nat_lit 169), .none⟩, ⟨PyData.keyHash P (Str.ofString "__annotations__"), .str (Str.ofString "__annotations__") (nat_lit 170), .ref (nat_lit 6)⟩, ⟨PyData.keyHash P (Str.ofString "__builtins__"), .str (Str.ofString "__builtins__") (nat_lit 171), .ref (nat_lit 4)⟩, ⟨PyData.keyHash P (Str.ofString "__file__"), .str (Str.ofString "__file__") (nat_lit 173), .str (Str.ofString "/claim/cut.py") (nat_lit 172)⟩, ⟨PyData.keyHash P (Str.ofString "__cached__"), .str (Str.ofString "__cached__") (nat_lit 174), .none⟩, ⟨PyData.keyHash P (Str.ofString "_sre"), .str (Str.ofString "_sre") (nat_lit 275), .ref (nat_lit 12)⟩, ⟨PyData.keyHash P (Str.ofString "deque"), .str (Str.ofString "deque") (nat_lit 317), .type "collections.deque"⟩, ⟨PyData.keyHash P (Str.ofString "_wall"), .str (Str.ofString "_wall") (nat_lit 330), .ref (nat_lit 44)⟩, ⟨PyData.keyHash P (Str.ofString "read_uint1"), .str (Str.ofString "read_uint1") (nat_lit 340), .ref (nat_lit 51)⟩, ⟨PyData.keyHash P (Str.ofString "read_string1"), .str (Str.ofString "read_string1") (nat_lit 349), .ref (nat_lit 58)⟩, ⟨PyData.keyHash P (Str.ofString "_twin_re_1"), .str (Str.ofString "_twin_re_1") (nat_lit 389), .ref (nat_lit 63)⟩, ⟨PyData.keyHash P (Str.ofString "_whence"), .str (Str.ofString "_whence") (nat_lit 399), .ref (nat_lit 70)⟩, ⟨PyData.keyHash P (Str.ofString "_index"), .str (Str.ofString "_index") (nat_lit 407), .ref (nat_lit 77)⟩, ⟨PyData.keyHash P (Str.ofString "UnsupportedOperation"), .str (Str.ofString "UnsupportedOperation") (nat_lit 429), .ref (nat_lit 87)⟩, ⟨PyData.keyHash P (Str.ofString "IOBase"), .str (Str.ofString "IOBase") (nat_lit 461), .ref (nat_lit 107)⟩, ⟨PyData.keyHash P (Str.ofString "BufferedIOBase"), .str (Str.ofString "BufferedIOBase") (nat_lit 479), .ref (nat_lit 122)⟩, ⟨PyData.keyHash P (Str.ofString "TextIOBase"), .str (Str.ofString "TextIOBase") (nat_lit 497), .ref (nat_lit 134)⟩, ⟨PyData.keyHash P (Str.ofString "BytesIO"), .str (Str.ofString "BytesIO") (nat_lit 759), .ref (nat_lit 364)⟩, ⟨PyData.keyHash P (Str.ofString "StringIO"), .str (Str.ofString "StringIO") (nat_lit 1046), .ref (nat_lit 611)⟩, ⟨PyData.keyHash P (Str.ofString "_kind"), .str (Str.ofString "_kind") (nat_lit 1057), .ref (nat_lit 620)⟩, ⟨PyData.keyHash P (Str.ofString "_fspath"), .str (Str.ofString "_fspath") (nat_lit 1066), .ref (nat_lit 627)⟩, ⟨PyData.keyHash P (Str.ofString "_check_arg_types"), .str (Str.ofString "_check_arg_types") (nat_lit 1076), .ref (nat_lit 634)⟩, ⟨PyData.keyHash P (Str.ofString "isabs"), .str (Str.ofString "isabs") (nat_lit 1083), .ref (nat_lit 641)⟩, ⟨PyData.keyHash P (Str.ofString "join"), .str (Str.ofString "join") (nat_lit 1094), .ref (nat_lit 765)⟩, ⟨PyData.keyHash P (Str.ofString "join_path"), .str (Str.ofString "join_path") (nat_lit 1095), .ref (nat_lit 648)⟩, ⟨PyData.keyHash P (Str.ofString "dirname"), .str (Str.ofString "dirname") (nat_lit 1105), .ref (nat_lit 655)⟩, ⟨PyData.keyHash P (Str.ofString "shlex"), .str (Str.ofString "shlex") (nat_lit 1246), .ref (nat_lit 746)⟩, ⟨PyData.keyHash P (Str.ofString "split"), .str (Str.ofString "split") (nat_lit 1256), .ref (nat_lit 758)⟩, ⟨PyData.keyHash P (Str.ofString "join_shlex"), .str (Str.ofString "join_shlex") (nat_lit 1264), .ref (nat_lit 765)⟩, ⟨PyData.keyHash P (Str.ofString "_find_unsafe"), .str (Str.ofString "_find_unsafe") (nat_lit 1266), .ref (nat_lit 766)⟩, ⟨PyData.keyHash P (Str.ofString "quote"), .str (Str.ofString "quote") (nat_lit 1273), .ref (nat_lit 773)⟩, ⟨PyData.keyHash P (Str.ofString "sorted_list_difference"), .str (Str.ofString "sorted_list_difference") (nat_lit 1289), .ref (nat_lit 780)⟩, ⟨PyData.keyHash P (Str.ofString "_law_rows"), .str (Str.ofString "_law_rows") (nat_lit 1297), .ref (nat_lit 785)⟩, ⟨PyData.keyHash P (Str.ofString "_law_spelled"), .str (Str.ofString "_law_spelled") (nat_lit 1303), .ref (nat_lit 790)⟩, ⟨PyData.keyHash P (Str.ofString "_law_tape"), .str (Str.ofString "_law_tape") (nat_lit 1309), .ref (nat_lit 795)⟩, ⟨PyData.keyHash P (Str.ofString "_law_stream"), .str (Str.ofString "_law_stream") (nat_lit 1319), .ref (nat_lit 802)⟩, ⟨PyData.keyHash P (Str.ofString "_law_read"), .str (Str.ofString "_law_read") (nat_lit 1329), .ref (nat_lit 809)⟩, ⟨PyData.keyHash P (Str.ofString "_law_due"), .str (Str.ofString "_law_due") (nat_lit 1335), .ref (nat_lit 814)⟩, ⟨PyData.keyHash P (Str.ofString "law"), .str (Str.ofString "law") (nat_lit 1341), .ref (nat_lit 819)⟩] (nat_lit 43), #[]⟩) ::
  (nat_lit 50, ⟨.type "code", none, .fields #[.str (Str.ofString "read_uint1") (nat_lit 333), .str (Str.ofString "read_uint1") (nat_lit 334), .str (Str.ofString "/claim/cut.py") (nat_lit 335), .int (7) (nat_lit 0), .int (1) (nat_lit 0), .int (0) (nat_lit 0), .int (0) (nat_lit 0), .int (3) (nat_lit 0), .ref (nat_lit 45), .bool true, .int (318) (nat_lit 0), .ref (nat_lit 46), .none, .ref (nat_lit 47), .ref (nat_lit 48), .ref (nat_lit 49), .int (338) (nat_lit 0), .int (7) (nat_lit 0), .str (Str.ofString "/claim/cut.py") (nat_lit 339)], #[]⟩) ::
  (nat_lit 51, ⟨.type "function", none, .func (fnOf (Str.ofString "read_uint1") (Str.ofString "read_uint1") (fnP [4]) (fnB [4]) (fnS [4]) (.none) (.none) (.none) (.str (Str.ofString "cpy313.pickletools") (nat_lit 331)) none (.ref (nat_lit 50)) (.none)), #[]⟩) ::
  (nat_lit 57, ⟨.type "code", none, .fields #[.str (Str.ofString "read_string1") (nat_lit 341), .str (Str.ofString "read_string1") (nat_lit 342), .str (Str.ofString "/claim/cut.py") (nat_lit 343), .int (12) (nat_lit 0), .int (1) (nat_lit 0), .int (0) (nat_lit 0), .int (0) (nat_lit 0), .int (3) (nat_lit 0), .ref (nat_lit 52), .bool true, .int (318) (nat_lit 0), .ref (nat_lit 53), .none, .ref (nat_lit 54), .ref (nat_lit 55), .ref (nat_lit 56), .int (347) (nat_lit 0), .int (12) (nat_lit 0), .str (Str.ofString "/claim/cut.py") (nat_lit 348)], #[]⟩) ::
  (nat_lit 58, ⟨.type "function", none, .func (fnOf (Str.ofString "read_string1") (Str.ofString "read_string1") (fnP [5]) (fnB [5]) (fnS [5]) (.none) (.none) (.none) (.str (Str.ofString "cpy313.pickletools") (nat_lit 331)) none (.ref (nat_lit 57)) (.none)), #[]⟩) ::
  (nat_lit 62, ⟨.type "tuple", none, .seq #[.int (14) (nat_lit 0), .int (17) (nat_lit 0), .int (4) (nat_lit 0), .int (1) (nat_lit 0), .int (1) (nat_lit 0), .int (21) (nat_lit 0), .int (9) (nat_lit 0), .int (0) (nat_lit 0), .int (604043296) (nat_lit 0), .int (1) (nat_lit 0), .int (0) (nat_lit 0), .int (0) (nat_lit 0), .int (0) (nat_lit 0), .int (0) (nat_lit 0), .int (0) (nat_lit 0), .int (8) (nat_lit 0), .int (4) (nat_lit 0), .int (0) (nat_lit 0), .int (13) (nat_lit 0), .int (14) (nat_lit 0), .int (21) (nat_lit 0), .int (9) (nat_lit 0), .int (0) (nat_lit 0), .int (604043296) (nat_lit 0), .int (1) (nat_lit 0), .int (0) (nat_lit 0), .int (0) (nat_lit 0), .int (0) (nat_lit 0), .int (0) (nat_lit 0), .int (0) (nat_lit 0), .int (8) (nat_lit 0), .int (4) (nat_lit 0), .int (0) (nat_lit 0), .int (1) (nat_lit 0)] (nat_lit 0), #[]⟩) ::
  (nat_lit 63, ⟨.type "re.Pattern", none, .fields #[.str (Str.ofString "[^\\w@%+=:,./-]") (nat_lit 351), .int (256) (nat_lit 388), .int (0) (nat_lit 0), .none, .none, .ref (nat_lit 62), .int (0) (nat_lit 0)], #[]⟩) ::
  (nat_lit 76, ⟨.type "code", none, .fields #[.str (Str.ofString "_index") (nat_lit 400), .str (Str.ofString "_index") (nat_lit 401), .str (Str.ofString "/claim/cut.py") (nat_lit 402), .int (26) (nat_lit 0), .int (2) (nat_lit 0), .int (0) (nat_lit 0), .int (0) (nat_lit 0), .int (3) (nat_lit 0), .ref (nat_lit 71), .bool true, .int (318) (nat_lit 0), .ref (nat_lit 72), .none, .ref (nat_lit 73), .ref (nat_lit 74), .ref (nat_lit 75), .int (405) (nat_lit 0), .int (26) (nat_lit 0), .str (Str.ofString "/claim/cut.py") (nat_lit 406)], #[]⟩) ::
  (nat_lit 77, ⟨.type "function", none, .func (fnOf (Str.ofString "_index") (Str.ofString "_index") (fnP [9]) (fnB [9]) (fnS [9]) (.none) (.none) (.none) (.str (Str.ofString "io") (nat_lit 390)) none (.ref (nat_lit 76)) (.none)), #[]⟩) ::
  (nat_lit 103, ⟨.type "code", none, .fields #[.str (Str.ofString "__new__") (nat_lit 444), .str (Str.ofString "IOBase.__new__") (nat_lit 445), .str (Str.ofString "/claim/cut.py") (nat_lit 446), .int (38) (nat_lit 0), .int (1) (nat_lit 0), .int (1) (nat_lit 0), .int (0) (nat_lit 0), .int (15) (nat_lit 0), .ref (nat_lit 98), .bool true, .int (318) (nat_lit 0), .ref (nat_lit 99), .none, .ref (nat_lit 100), .ref (nat_lit 101), .ref (nat_lit 102), .int (450) (nat_lit 0), .int (38) (nat_lit 0), .str (Str.ofString "/claim/cut.py") (nat_lit 451)], #[]⟩) ::
  (nat_lit 104, ⟨.type "function", none, .func (fnOf (Str.ofString "__new__") (Str.ofString "IOBase.__new__") (fnP [11, 1]) (fnB [11, 1]) (fnS [11, 1]) (.none) (.none) (.none) (.str (Str.ofString "io") (nat_lit 390)) none (.ref (nat_lit 103)) (.none)), #[]⟩) ::
  (nat_lit 106, ⟨.type "dict", none, .dict #[⟨PyData.keyHash P (Str.ofString "__module__"), .str (Str.ofString "__module__") (nat_lit 437), .str (Str.ofString "io") (nat_lit 442)⟩, ⟨PyData.keyHash P (Str.ofString "__firstlineno__"), .str (Str.ofString "__firstlineno__") (nat_lit 441), .int (35) (nat_lit 440)⟩, ⟨PyData.keyHash P (Str.ofString "__new__"), .str (Str.ofString "__new__") (nat_lit 452), .ref (nat_lit 108)⟩, ⟨PyData.keyHash P (Str.ofString "__static_attributes__"), .str (Str.ofString "__static_attributes__") (nat_lit 453), .ref (nat_lit 105)⟩, ⟨PyData.keyHash P (Str.ofString "__dict__"), .str (Str.ofString "__dict__") (nat_lit 456), .ref (nat_lit 109)⟩, ⟨PyData.keyHash P (Str.ofString "__weakref__"), .str (Str.ofString "__weakref__") (nat_lit 458), .ref (nat_lit 110)⟩, ⟨PyData.keyHash P (Str.ofString "__doc__"), .str (Str.ofString "__doc__") (nat_lit 459), .none⟩] (nat_lit 4), #[]⟩) ::
  (nat_lit 107, ⟨.type "type", none, .cls ⟨(Str.ofString "IOBase"), [.type "object"], [.ref (nat_lit 107), .type "object"], nat_lit 106, (Str.ofString "IOBase"), true, [], [.ref (nat_lit 122), .ref (nat_lit 134)], false, none, false⟩, #[none, none, some (.str (Str.ofString "IOBase") (nat_lit 430)), some (.str (Str.ofString "IOBase") (nat_lit 438)), some (.none), some (.bool true)]⟩) ::
  (nat_lit 108, ⟨.type "staticmethod", none, .fields #[.ref (nat_lit 104)], #[]⟩) ::
  (nat_lit 133, ⟨.type "dict", none, .dict #[⟨PyData.keyHash P (Str.ofString "__module__"), .str (Str.ofString "__module__") (nat_lit 487), .str (Str.ofString "io") (nat_lit 492)⟩, ⟨PyData.keyHash P (Str.ofString "__firstlineno__"), .str (Str.ofString "__firstlineno__") (nat_lit 491), .int (44) (nat_lit 490)⟩, ⟨PyData.keyHash P (Str.ofString "__static_attributes__"), .str (Str.ofString "__static_attributes__") (nat_lit 494), .ref (nat_lit 132)⟩, ⟨PyData.keyHash P (Str.ofString "__doc__"), .str (Str.ofString "__doc__") (nat_lit 495), .none⟩] (nat_lit 2), #[]⟩) ::
  (nat_lit 134, ⟨.type "type", none, .cls ⟨(Str.ofString "TextIOBase"), [.ref (nat_lit 107)], [.ref (nat_lit 134), .ref (nat_lit 107), .type "object"], nat_lit 133, (Str.ofString "TextIOBase"), true, [], [.ref (nat_lit 611)], false, none, false⟩, #[some (.ref (nat_lit 125)), none, some (.str (Str.ofString "TextIOBase") (nat_lit 480)), some (.str (Str.ofString "TextIOBase") (nat_lit 488)), some (.none), some (.bool true)]⟩) ::
  (nat_lit 364, ⟨.type "type", none, .cls ⟨(Str.ofString "BytesIO"), [.ref (nat_lit 122)], [.ref (nat_lit 364), .ref (nat_lit 122), .ref (nat_lit 107), .type "object"], nat_lit 363, (Str.ofString "BytesIO"), true, [], [], false, none, false⟩, #[some (.ref (nat_lit 137)), none, some (.str (Str.ofString "BytesIO") (nat_lit 498)), some (.str (Str.ofString "BytesIO") (nat_lit 506)), some (.none), some (.bool true)]⟩) ::
  (nat_lit 374, ⟨.type "tuple", none, .seq #[.str (Str.ofString "") (nat_lit 774), .str (Str.ofString "\n") (nat_lit 775)] (nat_lit 0), #[]⟩) ::
  (nat_lit 380, ⟨.type "code", none, .fields #[.str (Str.ofString "__init__") (nat_lit 776), .str (Str.ofString "StringIO.__init__") (nat_lit 777), .str (Str.ofString "/claim/cut.py") (nat_lit 778), .int (219) (nat_lit 0), .int (3) (nat_lit 0), .int (0) (nat_lit 0), .int (0) (nat_lit 0), .int (3) (nat_lit 0), .ref (nat_lit 375), .bool true, .int (318) (nat_lit 0), .ref (nat_lit 376), .none, .ref (nat_lit 377), .ref (nat_lit 378), .ref (nat_lit 379), .int (782) (nat_lit 0), .int (219) (nat_lit 0), .str (Str.ofString "/claim/cut.py") (nat_lit 783)], #[]⟩) ::
  (nat_lit 381, ⟨.type "function", none, .func (fnOf (Str.ofString "__init__") (Str.ofString "StringIO.__init__") (fnP [15, 1]) (fnB [15, 1]) (fnS [15, 1]) (.ref (nat_lit 374)) (.none) (.none) (.str (Str.ofString "io") (nat_lit 390)) none (.ref (nat_lit 380)) (.none)), #[]⟩) ::
  (nat_lit 387, ⟨.type "code", none, .fields #[.str (Str.ofString "__translated") (nat_lit 785), .str (Str.ofString "StringIO.__translated") (nat_lit 786), .str (Str.ofString "/claim/cut.py") (nat_lit 787), .int (232) (nat_lit 0), .int (2) (nat_lit 0), .int (0) (nat_lit 0), .int (0) (nat_lit 0), .int (3) (nat_lit 0), .ref (nat_lit 382), .bool true, .int (318) (nat_lit 0), .ref (nat_lit 383), .none, .ref (nat_lit 384), .ref (nat_lit 385), .ref (nat_lit 386), .int (791) (nat_lit 0), .int (232) (nat_lit 0), .str (Str.ofString "/claim/cut.py") (nat_lit 792)], #[]⟩) ::
  (nat_lit 388, ⟨.type "function", none, .func (fnOf (Str.ofString "__translated") (Str.ofString "StringIO.__translated") (fnP [15, 2]) (fnB [15, 2]) (fnS [15, 2]) (.none) (.none) (.none) (.str (Str.ofString "io") (nat_lit 390)) none (.ref (nat_lit 387)) (.none)), #[]⟩) ::
  (nat_lit 394, ⟨.type "code", none, .fields #[.str (Str.ofString "__check") (nat_lit 794), .str (Str.ofString "StringIO.__check") (nat_lit 795), .str (Str.ofString "/claim/cut.py") (nat_lit 796), .int (240) (nat_lit 0), .int (1) (nat_lit 0), .int (0) (nat_lit 0), .int (0) (nat_lit 0), .int (3) (nat_lit 0), .ref (nat_lit 389), .bool true, .int (318) (nat_lit 0), .ref (nat_lit 390), .none, .ref (nat_lit 391), .ref (nat_lit 392), .ref (nat_lit 393), .int (798) (nat_lit 0), .int (240) (nat_lit 0), .str (Str.ofString "/claim/cut.py") (nat_lit 799)], #[]⟩) ::
  (nat_lit 395, ⟨.type "function", none, .func (fnOf (Str.ofString "__check") (Str.ofString "StringIO.__check") (fnP [15, 3]) (fnB [15, 3]) (fnS [15, 3]) (.none) (.none) (.none) (.str (Str.ofString "io") (nat_lit 390)) none (.ref (nat_lit 394)) (.none)), #[]⟩) ::
  (nat_lit 408, ⟨.type "code", none, .fields #[.str (Str.ofString "__line") (nat_lit 808), .str (Str.ofString "StringIO.__line") (nat_lit 809), .str (Str.ofString "/claim/cut.py") (nat_lit 810), .int (248) (nat_lit 0), .int (2) (nat_lit 0), .int (0) (nat_lit 0), .int (0) (nat_lit 0), .int (3) (nat_lit 0), .ref (nat_lit 403), .bool true, .int (318) (nat_lit 0), .ref (nat_lit 404), .none, .ref (nat_lit 405), .ref (nat_lit 406), .ref (nat_lit 407), .int (820) (nat_lit 0), .int (248) (nat_lit 0), .str (Str.ofString "/claim/cut.py") (nat_lit 821)], #[]⟩) ::
  (nat_lit 409, ⟨.type "function", none, .func (fnOf (Str.ofString "__line") (Str.ofString "StringIO.__line") (fnP [15, 5]) (fnB [15, 5]) (fnS [15, 5]) (.none) (.none) (.none) (.str (Str.ofString "io") (nat_lit 390)) none (.ref (nat_lit 408)) (.none)), #[]⟩) ::
  (nat_lit 550, ⟨.type "tuple", none, .seq #[.int (-1) (nat_lit 967)] (nat_lit 0), #[]⟩) ::
  (nat_lit 556, ⟨.type "code", none, .fields #[.str (Str.ofString "read") (nat_lit 968), .str (Str.ofString "StringIO.read") (nat_lit 969), .str (Str.ofString "/claim/cut.py") (nat_lit 970), .int (362) (nat_lit 0), .int (2) (nat_lit 0), .int (2) (nat_lit 0), .int (0) (nat_lit 0), .int (3) (nat_lit 0), .ref (nat_lit 551), .bool true, .int (318) (nat_lit 0), .ref (nat_lit 552), .none, .ref (nat_lit 553), .ref (nat_lit 554), .ref (nat_lit 555), .int (975) (nat_lit 0), .int (362) (nat_lit 0), .str (Str.ofString "/claim/cut.py") (nat_lit 976)], #[]⟩) ::
  (nat_lit 557, ⟨.type "function", none, .func (fnOf (Str.ofString "read") (Str.ofString "StringIO.read") (fnP [15, 25]) (fnB [15, 25]) (fnS [15, 25]) (.ref (nat_lit 550)) (.none) (.none) (.str (Str.ofString "io") (nat_lit 390)) none (.ref (nat_lit 556)) (.none)), #[]⟩) ::
  (nat_lit 558, ⟨.type "tuple", none, .seq #[.int (-1) (nat_lit 979)] (nat_lit 0), #[]⟩) ::
  (nat_lit 564, ⟨.type "code", none, .fields #[.str (Str.ofString "readline") (nat_lit 980), .str (Str.ofString "StringIO.readline") (nat_lit 981), .str (Str.ofString "/claim/cut.py") (nat_lit 982), .int (376) (nat_lit 0), .int (2) (nat_lit 0), .int (2) (nat_lit 0), .int (0) (nat_lit 0), .int (3) (nat_lit 0), .ref (nat_lit 559), .bool true, .int (318) (nat_lit 0), .ref (nat_lit 560), .none, .ref (nat_lit 561), .ref (nat_lit 562), .ref (nat_lit 563), .int (985) (nat_lit 0), .int (376) (nat_lit 0), .str (Str.ofString "/claim/cut.py") (nat_lit 986)], #[]⟩) ::
  (nat_lit 565, ⟨.type "function", none, .func (fnOf (Str.ofString "readline") (Str.ofString "StringIO.readline") (fnP [15, 26]) (fnB [15, 26]) (fnS [15, 26]) (.ref (nat_lit 558)) (.none) (.none) (.str (Str.ofString "io") (nat_lit 390)) none (.ref (nat_lit 564)) (.none)), #[]⟩) ::
  (nat_lit 610, ⟨.type "dict", none, .dict #[⟨PyData.keyHash P (Str.ofString "__module__"), .str (Str.ofString "__module__") (nat_lit 767), .str (Str.ofString "_io") (nat_lit 772)⟩, ⟨PyData.keyHash P (Str.ofString "__firstlineno__"), .str (Str.ofString "__firstlineno__") (nat_lit 771), .int (216) (nat_lit 770)⟩, ⟨PyData.keyHash P (Str.ofString "__init__"), .str (Str.ofString "__init__") (nat_lit 784), .ref (nat_lit 381)⟩, ⟨PyData.keyHash P (Str.ofString "_StringIO__translated"), .str (Str.ofString "_StringIO__translated") (nat_lit 793), .ref (nat_lit 388)⟩, ⟨PyData.keyHash P (Str.ofString "_StringIO__check"), .str (Str.ofString "_StringIO__check") (nat_lit 800), .ref (nat_lit 395)⟩, ⟨PyData.keyHash P (Str.ofString "_StringIO__check_dot"), .str (Str.ofString "_StringIO__check_dot") (nat_lit 807), .ref (nat_lit 402)⟩, ⟨PyData.keyHash P (Str.ofString "_StringIO__line"), .str (Str.ofString "_StringIO__line") (nat_lit 822), .ref (nat_lit 409)⟩, ⟨PyData.keyHash P (Str.ofString "closed"), .str (Str.ofString "closed") (nat_lit 830), .ref (nat_lit 417)⟩, ⟨PyData.keyHash P (Str.ofString "line_buffering"), .str (Str.ofString "line_buffering") (nat_lit 838), .ref (nat_lit 425)⟩, ⟨PyData.keyHash P (Str.ofString "newlines"), .str (Str.ofString "newlines") (nat_lit 846), .ref (nat_lit 433)⟩, ⟨PyData.keyHash P (Str.ofString "encoding"), .str (Str.ofString "encoding") (nat_lit 854), .ref (nat_lit 441)⟩, ⟨PyData.keyHash P (Str.ofString "errors"), .str (Str.ofString "errors") (nat_lit 862), .ref (nat_lit 449)⟩, ⟨PyData.keyHash P (Str.ofString "close"), .str (Str.ofString "close") (nat_lit 869), .ref (nat_lit 456)⟩, ⟨PyData.keyHash P (Str.ofString "__enter__"), .str (Str.ofString "__enter__") (nat_lit 876), .ref (nat_lit 463)⟩, ⟨PyData.keyHash P (Str.ofString "__exit__"), .str (Str.ofString "__exit__") (nat_lit 884), .ref (nat_lit 470)⟩, ⟨PyData.keyHash P (Str.ofString "readable"), .str (Str.ofString "readable") (nat_lit 891), .ref (nat_lit 477)⟩, ⟨PyData.keyHash P (Str.ofString "writable"), .str (Str.ofString "writable") (nat_lit 898), .ref (nat_lit 484)⟩, ⟨PyData.keyHash P (Str.ofString "seekable"), .str (Str.ofString "seekable") (nat_lit 905), .ref (nat_lit 491)⟩, ⟨PyData.keyHash P (Str.ofString "isatty"), .str (Str.ofString "isatty") (nat_lit 912), .ref (nat_lit 498)⟩, ⟨PyData.keyHash P (Str.ofString "flush"), .str (Str.ofString "flush") (nat_lit 919), .ref (nat_lit 505)⟩, ⟨PyData.keyHash P (Str.ofString "fileno"), .str (Str.ofString "fileno") (nat_lit 926), .ref (nat_lit 512)⟩, ⟨PyData.keyHash P (Str.ofString "detach"), .str (Str.ofString "detach") (nat_lit 933), .ref (nat_lit 519)⟩, ⟨PyData.keyHash P (Str.ofString "getvalue"), .str (Str.ofString "getvalue") (nat_lit 940), .ref (nat_lit 526)⟩, ⟨PyData.keyHash P (Str.ofString "tell"), .str (Str.ofString "tell") (nat_lit 947), .ref (nat_lit 533)⟩, ⟨PyData.keyHash P (Str.ofString "seek"), .str (Str.ofString "seek") (nat_lit 957), .ref (nat_lit 541)⟩, ⟨PyData.keyHash P (Str.ofString "truncate"), .str (Str.ofString "truncate") (nat_lit 965), .ref (nat_lit 549)⟩, ⟨PyData.keyHash P (Str.ofString "read"), .str (Str.ofString "read") (nat_lit 977), .ref (nat_lit 557)⟩, ⟨PyData.keyHash P (Str.ofString "readline"), .str (Str.ofString "readline") (nat_lit 987), .ref (nat_lit 565)⟩, ⟨PyData.keyHash P (Str.ofString "readlines"), .str (Str.ofString "readlines") (nat_lit 997), .ref (nat_lit 573)⟩, ⟨PyData.keyHash P (Str.ofString "__iter__"), .str (Str.ofString "__iter__") (nat_lit 1004), .ref (nat_lit 580)⟩, ⟨PyData.keyHash P (Str.ofString "__next__"), .str (Str.ofString "__next__") (nat_lit 1012), .ref (nat_lit 587)⟩, ⟨PyData.keyHash P (Str.ofString "write"), .str (Str.ofString "write") (nat_lit 1024), .ref (nat_lit 594)⟩, ⟨PyData.keyHash P (Str.ofString "writelines"), .str (Str.ofString "writelines") (nat_lit 1032), .ref (nat_lit 601)⟩, ⟨PyData.keyHash P (Str.ofString "__repr__"), .str (Str.ofString "__repr__") (nat_lit 1039), .ref (nat_lit 608)⟩, ⟨PyData.keyHash P (Str.ofString "__static_attributes__"), .str (Str.ofString "__static_attributes__") (nat_lit 1043), .ref (nat_lit 609)⟩, ⟨PyData.keyHash P (Str.ofString "__doc__"), .str (Str.ofString "__doc__") (nat_lit 1044), .none⟩] (nat_lit 2), #[]⟩) ::
  (nat_lit 611, ⟨.type "type", none, .cls ⟨(Str.ofString "StringIO"), [.ref (nat_lit 134)], [.ref (nat_lit 611), .ref (nat_lit 134), .ref (nat_lit 107), .type "object"], nat_lit 610, (Str.ofString "StringIO"), true, [], [], false, none, false⟩, #[some (.ref (nat_lit 367)), none, some (.str (Str.ofString "StringIO") (nat_lit 760)), some (.str (Str.ofString "StringIO") (nat_lit 768)), some (.none), some (.bool true)]⟩) ::
  (nat_lit 663, ⟨.type "tuple", none, .seq #[.none, .none, .bool false, .bool false] (nat_lit 0), #[]⟩) ::
  (nat_lit 669, ⟨.type "code", none, .fields #[.str (Str.ofString "__init__") (nat_lit 1120), .str (Str.ofString "shlex.__init__") (nat_lit 1121), .str (Str.ofString "/claim/cut.py") (nat_lit 1122), .int (488) (nat_lit 0), .int (5) (nat_lit 0), .int (0) (nat_lit 0), .int (0) (nat_lit 0), .int (3) (nat_lit 0), .ref (nat_lit 664), .bool true, .int (318) (nat_lit 0), .ref (nat_lit 665), .none, .ref (nat_lit 666), .ref (nat_lit 667), .ref (nat_lit 668), .int (1129) (nat_lit 0), .int (488) (nat_lit 0), .str (Str.ofString "/claim/cut.py") (nat_lit 1130)], #[]⟩) ::
  (nat_lit 670, ⟨.type "function", none, .func (fnOf (Str.ofString "__init__") (Str.ofString "shlex.__init__") (fnP [25, 0]) (fnB [25, 0]) (fnS [25, 0]) (.ref (nat_lit 663)) (.none) (.none) (.str (Str.ofString "cpy313.shlex") (nat_lit 1106)) none (.ref (nat_lit 669)) (.none)), #[]⟩) ::
  (nat_lit 676, ⟨.type "code", none, .fields #[.str (Str.ofString "punctuation_chars") (nat_lit 1132), .str (Str.ofString "shlex.punctuation_chars") (nat_lit 1133), .str (Str.ofString "/claim/cut.py") (nat_lit 1134), .int (529) (nat_lit 0), .int (1) (nat_lit 0), .int (0) (nat_lit 0), .int (0) (nat_lit 0), .int (3) (nat_lit 0), .ref (nat_lit 671), .bool true, .int (318) (nat_lit 0), .ref (nat_lit 672), .none, .ref (nat_lit 673), .ref (nat_lit 674), .ref (nat_lit 675), .int (1136) (nat_lit 0), .int (529) (nat_lit 0), .str (Str.ofString "/claim/cut.py") (nat_lit 1137)], #[]⟩) ::
  (nat_lit 677, ⟨.type "function", none, .func (fnOf (Str.ofString "punctuation_chars") (Str.ofString "shlex.punctuation_chars") (fnP [25, 1]) (fnB [25, 1]) (fnS [25, 1]) (.none) (.none) (.none) (.str (Str.ofString "cpy313.shlex") (nat_lit 1106)) none (.ref (nat_lit 676)) (.none)), #[]⟩) ::
  (nat_lit 678, ⟨.type "property", none, .fields #[.ref (nat_lit 677), .none, .none, .none, .str (Str.ofString "punctuation_chars") (nat_lit 1139), .bool false], #[]⟩) ::
  (nat_lit 706, ⟨.type "code", none, .fields #[.str (Str.ofString "get_token") (nat_lit 1164), .str (Str.ofString "shlex.get_token") (nat_lit 1165), .str (Str.ofString "/claim/cut.py") (nat_lit 1166), .int (556) (nat_lit 0), .int (1) (nat_lit 0), .int (0) (nat_lit 0), .int (0) (nat_lit 0), .int (3) (nat_lit 0), .ref (nat_lit 701), .bool true, .int (318) (nat_lit 0), .ref (nat_lit 702), .none, .ref (nat_lit 703), .ref (nat_lit 704), .ref (nat_lit 705), .int (1173) (nat_lit 0), .int (556) (nat_lit 0), .str (Str.ofString "/claim/cut.py") (nat_lit 1174)], #[]⟩) ::
  (nat_lit 707, ⟨.type "function", none, .func (fnOf (Str.ofString "get_token") (Str.ofString "shlex.get_token") (fnP [25, 5]) (fnB [25, 5]) (fnS [25, 5]) (.none) (.none) (.none) (.str (Str.ofString "cpy313.shlex") (nat_lit 1106)) none (.ref (nat_lit 706)) (.none)), #[]⟩) ::
  (nat_lit 713, ⟨.type "code", none, .fields #[.str (Str.ofString "read_token") (nat_lit 1176), .str (Str.ofString "shlex.read_token") (nat_lit 1177), .str (Str.ofString "/claim/cut.py") (nat_lit 1178), .int (583) (nat_lit 0), .int (1) (nat_lit 0), .int (0) (nat_lit 0), .int (0) (nat_lit 0), .int (3) (nat_lit 0), .ref (nat_lit 708), .bool true, .int (318) (nat_lit 0), .ref (nat_lit 709), .none, .ref (nat_lit 710), .ref (nat_lit 711), .ref (nat_lit 712), .int (1184) (nat_lit 0), .int (583) (nat_lit 0), .str (Str.ofString "/claim/cut.py") (nat_lit 1185)], #[]⟩) ::
  (nat_lit 714, ⟨.type "function", none, .func (fnOf (Str.ofString "read_token") (Str.ofString "shlex.read_token") (fnP [25, 6]) (fnB [25, 6]) (fnS [25, 6]) (.none) (.none) (.none) (.str (Str.ofString "cpy313.shlex") (nat_lit 1106)) none (.ref (nat_lit 713)) (.none)), #[]⟩) ::
  (nat_lit 735, ⟨.type "code", none, .fields #[.str (Str.ofString "__iter__") (nat_lit 1204), .str (Str.ofString "shlex.__iter__") (nat_lit 1205), .str (Str.ofString "/claim/cut.py") (nat_lit 1206), .int (730) (nat_lit 0), .int (1) (nat_lit 0), .int (0) (nat_lit 0), .int (0) (nat_lit 0), .int (3) (nat_lit 0), .ref (nat_lit 730), .bool true, .int (318) (nat_lit 0), .ref (nat_lit 731), .none, .ref (nat_lit 732), .ref (nat_lit 733), .ref (nat_lit 734), .int (1208) (nat_lit 0), .int (730) (nat_lit 0), .str (Str.ofString "/claim/cut.py") (nat_lit 1209)], #[]⟩) ::
  (nat_lit 736, ⟨.type "function", none, .func (fnOf (Str.ofString "__iter__") (Str.ofString "shlex.__iter__") (fnP [25, 9]) (fnB [25, 9]) (fnS [25, 9]) (.none) (.none) (.none) (.str (Str.ofString "cpy313.shlex") (nat_lit 1106)) none (.ref (nat_lit 735)) (.none)), #[]⟩) ::
  (nat_lit 742, ⟨.type "code", none, .fields #[.str (Str.ofString "__next__") (nat_lit 1211), .str (Str.ofString "shlex.__next__") (nat_lit 1212), .str (Str.ofString "/claim/cut.py") (nat_lit 1213), .int (733) (nat_lit 0), .int (1) (nat_lit 0), .int (0) (nat_lit 0), .int (0) (nat_lit 0), .int (3) (nat_lit 0), .ref (nat_lit 737), .bool true, .int (318) (nat_lit 0), .ref (nat_lit 738), .none, .ref (nat_lit 739), .ref (nat_lit 740), .ref (nat_lit 741), .int (1216) (nat_lit 0), .int (733) (nat_lit 0), .str (Str.ofString "/claim/cut.py") (nat_lit 1217)], #[]⟩) ::
  (nat_lit 743, ⟨.type "function", none, .func (fnOf (Str.ofString "__next__") (Str.ofString "shlex.__next__") (fnP [25, 10]) (fnB [25, 10]) (fnS [25, 10]) (.none) (.none) (.none) (.str (Str.ofString "cpy313.shlex") (nat_lit 1106)) none (.ref (nat_lit 742)) (.none)), #[]⟩) ::
  (nat_lit 745, ⟨.type "dict", none, .dict #[⟨PyData.keyHash P (Str.ofString "__module__"), .str (Str.ofString "__module__") (nat_lit 1115), .str (Str.ofString "cpy313.shlex") (nat_lit 1106)⟩, ⟨PyData.keyHash P (Str.ofString "__firstlineno__"), .str (Str.ofString "__firstlineno__") (nat_lit 1119), .int (486) (nat_lit 1118)⟩, ⟨PyData.keyHash P (Str.ofString "__init__"), .str (Str.ofString "__init__") (nat_lit 1131), .ref (nat_lit 670)⟩, ⟨PyData.keyHash P (Str.ofString "punctuation_chars"), .str (Str.ofString "punctuation_chars") (nat_lit 1139), .ref (nat_lit 678)⟩, ⟨PyData.keyHash P (Str.ofString "push_token"), .str (Str.ofString "push_token") (nat_lit 1147), .ref (nat_lit 685)⟩, ⟨PyData.keyHash P (Str.ofString "push_source"), .str (Str.ofString "push_source") (nat_lit 1156), .ref (nat_lit 693)⟩, ⟨PyData.keyHash P (Str.ofString "pop_source"), .str (Str.ofString "pop_source") (nat_lit 1163), .ref (nat_lit 700)⟩, ⟨PyData.keyHash P (Str.ofString "get_token"), .str (Str.ofString "get_token") (nat_lit 1175), .ref (nat_lit 707)⟩, ⟨PyData.keyHash P (Str.ofString "read_token"), .str (Str.ofString "read_token") (nat_lit 1186), .ref (nat_lit 714)⟩, ⟨PyData.keyHash P (Str.ofString "sourcehook"), .str (Str.ofString "sourcehook") (nat_lit 1194), .ref (nat_lit 721)⟩, ⟨PyData.keyHash P (Str.ofString "error_leader"), .str (Str.ofString "error_leader") (nat_lit 1203), .ref (nat_lit 729)⟩, ⟨PyData.keyHash P (Str.ofString "__iter__"), .str (Str.ofString "__iter__") (nat_lit 1210), .ref (nat_lit 736)⟩, ⟨PyData.keyHash P (Str.ofString "__next__"), .str (Str.ofString "__next__") (nat_lit 1218), .ref (nat_lit 743)⟩, ⟨PyData.keyHash P (Str.ofString "__static_attributes__"), .str (Str.ofString "__static_attributes__") (nat_lit 1239), .ref (nat_lit 744)⟩, ⟨PyData.keyHash P (Str.ofString "__dict__"), .str (Str.ofString "__dict__") (nat_lit 1241), .ref (nat_lit 747)⟩, ⟨PyData.keyHash P (Str.ofString "__weakref__"), .str (Str.ofString "__weakref__") (nat_lit 1243), .ref (nat_lit 748)⟩, ⟨PyData.keyHash P (Str.ofString "__doc__"), .str (Str.ofString "__doc__") (nat_lit 1244), .none⟩] (nat_lit 4), #[]⟩) ::
  (nat_lit 746, ⟨.type "type", none, .cls ⟨(Str.ofString "shlex"), [.type "object"], [.ref (nat_lit 746), .type "object"], nat_lit 745, (Str.ofString "shlex"), true, [], [], false, none, false⟩, #[none, none, some (.str (Str.ofString "shlex") (nat_lit 1108)), some (.str (Str.ofString "shlex") (nat_lit 1116)), some (.builtin "object.__new__"), some (.bool true)]⟩) ::
  (nat_lit 751, ⟨.type "tuple", none, .seq #[.bool false, .bool true] (nat_lit 0), #[]⟩) ::
  (nat_lit 757, ⟨.type "code", none, .fields #[.str (Str.ofString "split") (nat_lit 1247), .str (Str.ofString "split") (nat_lit 1248), .str (Str.ofString "/claim/cut.py") (nat_lit 1249), .int (738) (nat_lit 0), .int (3) (nat_lit 0), .int (0) (nat_lit 0), .int (0) (nat_lit 0), .int (3) (nat_lit 0), .ref (nat_lit 752), .bool true, .int (318) (nat_lit 0), .ref (nat_lit 753), .none, .ref (nat_lit 754), .ref (nat_lit 755), .ref (nat_lit 756), .int (1254) (nat_lit 0), .int (738) (nat_lit 0), .str (Str.ofString "/claim/cut.py") (nat_lit 1255)], #[]⟩) ::
  (nat_lit 758, ⟨.type "function", none, .func (fnOf (Str.ofString "split") (Str.ofString "split") (fnP [26]) (fnB [26]) (fnS [26]) (.ref (nat_lit 751)) (.none) (.none) (.str (Str.ofString "cpy313.shlex") (nat_lit 1106)) none (.ref (nat_lit 757)) (.none)), #[]⟩) ::
  (nat_lit 764, ⟨.type "code", none, .fields #[.str (Str.ofString "join") (nat_lit 1257), .str (Str.ofString "join") (nat_lit 1258), .str (Str.ofString "/claim/cut.py") (nat_lit 1259), .int (746) (nat_lit 0), .int (1) (nat_lit 0), .int (0) (nat_lit 0), .int (0) (nat_lit 0), .int (3) (nat_lit 0), .ref (nat_lit 759), .bool true, .int (318) (nat_lit 0), .ref (nat_lit 760), .none, .ref (nat_lit 761), .ref (nat_lit 762), .ref (nat_lit 763), .int (1261) (nat_lit 0), .int (746) (nat_lit 0), .str (Str.ofString "/claim/cut.py") (nat_lit 1262)], #[]⟩) ::
  (nat_lit 765, ⟨.type "function", none, .func (fnOf (Str.ofString "join") (Str.ofString "join") (fnP [27]) (fnB [27]) (fnS [27]) (.none) (.none) (.none) (.str (Str.ofString "cpy313.shlex") (nat_lit 1106)) none (.ref (nat_lit 764)) (.none)), #[]⟩) ::
  (nat_lit 766, ⟨.type "builtin_function_or_method", none, .fields #[.builtin "re.Pattern.search", .ref (nat_lit 63)], #[]⟩) ::
  (nat_lit 772, ⟨.type "code", none, .fields #[.str (Str.ofString "quote") (nat_lit 1267), .str (Str.ofString "quote") (nat_lit 1268), .str (Str.ofString "/claim/cut.py") (nat_lit 1269), .int (750) (nat_lit 0), .int (1) (nat_lit 0), .int (0) (nat_lit 0), .int (0) (nat_lit 0), .int (3) (nat_lit 0), .ref (nat_lit 767), .bool true, .int (318) (nat_lit 0), .ref (nat_lit 768), .none, .ref (nat_lit 769), .ref (nat_lit 770), .ref (nat_lit 771), .int (1271) (nat_lit 0), .int (750) (nat_lit 0), .str (Str.ofString "/claim/cut.py") (nat_lit 1272)], #[]⟩) ::
  (nat_lit 773, ⟨.type "function", none, .func (fnOf (Str.ofString "quote") (Str.ofString "quote") (fnP [30]) (fnB [30]) (fnS [30]) (.none) (.none) (.none) (.str (Str.ofString "cpy313.shlex") (nat_lit 1106)) none (.ref (nat_lit 772)) (.none)), #[]⟩) ::
  (nat_lit 779, ⟨.type "code", none, .fields #[.str (Str.ofString "sorted_list_difference") (nat_lit 1276), .str (Str.ofString "sorted_list_difference") (nat_lit 1277), .str (Str.ofString "/claim/cut.py") (nat_lit 1278), .int (757) (nat_lit 0), .int (2) (nat_lit 0), .int (0) (nat_lit 0), .int (0) (nat_lit 0), .int (3) (nat_lit 0), .ref (nat_lit 774), .bool true, .int (318) (nat_lit 0), .ref (nat_lit 775), .none, .ref (nat_lit 776), .ref (nat_lit 777), .ref (nat_lit 778), .int (1287) (nat_lit 0), .int (757) (nat_lit 0), .str (Str.ofString "/claim/cut.py") (nat_lit 1288)], #[]⟩) ::
  (nat_lit 780, ⟨.type "function", none, .func (fnOf (Str.ofString "sorted_list_difference") (Str.ofString "sorted_list_difference") (fnP [32]) (fnB [32]) (fnS [32]) (.none) (.none) (.none) (.str (Str.ofString "cpy313.unittest.util") (nat_lit 1274)) none (.ref (nat_lit 779)) (.none)), #[]⟩) ::
  (nat_lit 784, ⟨.type "code", none, .fields #[.str (Str.ofString "_law_rows") (nat_lit 1292), .str (Str.ofString "_law_rows") (nat_lit 1293), .str (Str.ofString "/claim/cut.py") (nat_lit 1294), .int (790) (nat_lit 0), .int (1) (nat_lit 0), .int (0) (nat_lit 0), .int (0) (nat_lit 0), .int (3) (nat_lit 0), .ref (nat_lit 781), .bool true, .int (318) (nat_lit 0), .ref (nat_lit 782), .none, .none, .none, .ref (nat_lit 783), .int (1295) (nat_lit 0), .int (790) (nat_lit 0), .str (Str.ofString "/claim/cut.py") (nat_lit 1296)], #[]⟩) ::
  (nat_lit 785, ⟨.type "function", none, .func (fnOf (Str.ofString "_law_rows") (Str.ofString "_law_rows") (fnP [34]) (fnB [34]) (fnS [34]) (.none) (.none) (.none) (.str (Str.ofString "law_in0077_01") (nat_lit 1290)) none (.ref (nat_lit 784)) (.none)), #[]⟩) ::
  (nat_lit 789, ⟨.type "code", none, .fields #[.str (Str.ofString "_law_spelled") (nat_lit 1298), .str (Str.ofString "_law_spelled") (nat_lit 1299), .str (Str.ofString "/claim/cut.py") (nat_lit 1300), .int (798) (nat_lit 0), .int (1) (nat_lit 0), .int (0) (nat_lit 0), .int (0) (nat_lit 0), .int (3) (nat_lit 0), .ref (nat_lit 786), .bool true, .int (318) (nat_lit 0), .ref (nat_lit 787), .none, .none, .none, .ref (nat_lit 788), .int (1301) (nat_lit 0), .int (798) (nat_lit 0), .str (Str.ofString "/claim/cut.py") (nat_lit 1302)], #[]⟩) ::
  (nat_lit 790, ⟨.type "function", none, .func (fnOf (Str.ofString "_law_spelled") (Str.ofString "_law_spelled") (fnP [35]) (fnB [35]) (fnS [35]) (.none) (.none) (.none) (.str (Str.ofString "law_in0077_01") (nat_lit 1290)) none (.ref (nat_lit 789)) (.none)), #[]⟩) ::
  (nat_lit 794, ⟨.type "code", none, .fields #[.str (Str.ofString "_law_tape") (nat_lit 1304), .str (Str.ofString "_law_tape") (nat_lit 1305), .str (Str.ofString "/claim/cut.py") (nat_lit 1306), .int (800) (nat_lit 0), .int (1) (nat_lit 0), .int (0) (nat_lit 0), .int (0) (nat_lit 0), .int (3) (nat_lit 0), .ref (nat_lit 791), .bool true, .int (318) (nat_lit 0), .ref (nat_lit 792), .none, .none, .none, .ref (nat_lit 793), .int (1307) (nat_lit 0), .int (800) (nat_lit 0), .str (Str.ofString "/claim/cut.py") (nat_lit 1308)], #[]⟩) ::
  (nat_lit 795, ⟨.type "function", none, .func (fnOf (Str.ofString "_law_tape") (Str.ofString "_law_tape") (fnP [36]) (fnB [36]) (fnS [36]) (.none) (.none) (.none) (.str (Str.ofString "law_in0077_01") (nat_lit 1290)) none (.ref (nat_lit 794)) (.none)), #[]⟩) ::
  (nat_lit 801, ⟨.type "code", none, .fields #[.str (Str.ofString "_law_stream") (nat_lit 1310), .str (Str.ofString "_law_stream") (nat_lit 1311), .str (Str.ofString "/claim/cut.py") (nat_lit 1312), .int (805) (nat_lit 0), .int (1) (nat_lit 0), .int (0) (nat_lit 0), .int (0) (nat_lit 0), .int (3) (nat_lit 0), .ref (nat_lit 796), .bool true, .int (318) (nat_lit 0), .ref (nat_lit 797), .none, .ref (nat_lit 798), .ref (nat_lit 799), .ref (nat_lit 800), .int (1317) (nat_lit 0), .int (805) (nat_lit 0), .str (Str.ofString "/claim/cut.py") (nat_lit 1318)], #[]⟩) ::
  (nat_lit 802, ⟨.type "function", none, .func (fnOf (Str.ofString "_law_stream") (Str.ofString "_law_stream") (fnP [37]) (fnB [37]) (fnS [37]) (.none) (.none) (.none) (.str (Str.ofString "law_in0077_01") (nat_lit 1290)) none (.ref (nat_lit 801)) (.none)), #[]⟩) ::
  (nat_lit 808, ⟨.type "code", none, .fields #[.str (Str.ofString "_law_read") (nat_lit 1320), .str (Str.ofString "_law_read") (nat_lit 1321), .str (Str.ofString "/claim/cut.py") (nat_lit 1322), .int (815) (nat_lit 0), .int (1) (nat_lit 0), .int (0) (nat_lit 0), .int (0) (nat_lit 0), .int (3) (nat_lit 0), .ref (nat_lit 803), .bool true, .int (318) (nat_lit 0), .ref (nat_lit 804), .none, .ref (nat_lit 805), .ref (nat_lit 806), .ref (nat_lit 807), .int (1327) (nat_lit 0), .int (815) (nat_lit 0), .str (Str.ofString "/claim/cut.py") (nat_lit 1328)], #[]⟩) ::
  (nat_lit 809, ⟨.type "function", none, .func (fnOf (Str.ofString "_law_read") (Str.ofString "_law_read") (fnP [38]) (fnB [38]) (fnS [38]) (.none) (.none) (.none) (.str (Str.ofString "law_in0077_01") (nat_lit 1290)) none (.ref (nat_lit 808)) (.none)), #[]⟩) ::
  (nat_lit 813, ⟨.type "code", none, .fields #[.str (Str.ofString "_law_due") (nat_lit 1330), .str (Str.ofString "_law_due") (nat_lit 1331), .str (Str.ofString "/claim/cut.py") (nat_lit 1332), .int (824) (nat_lit 0), .int (2) (nat_lit 0), .int (0) (nat_lit 0), .int (0) (nat_lit 0), .int (3) (nat_lit 0), .ref (nat_lit 810), .bool true, .int (318) (nat_lit 0), .ref (nat_lit 811), .none, .none, .none, .ref (nat_lit 812), .int (1333) (nat_lit 0), .int (824) (nat_lit 0), .str (Str.ofString "/claim/cut.py") (nat_lit 1334)], #[]⟩) ::
  (nat_lit 814, ⟨.type "function", none, .func (fnOf (Str.ofString "_law_due") (Str.ofString "_law_due") (fnP [39]) (fnB [39]) (fnS [39]) (.none) (.none) (.none) (.str (Str.ofString "law_in0077_01") (nat_lit 1290)) none (.ref (nat_lit 813)) (.none)), #[]⟩) ::
  (nat_lit 818, ⟨.type "code", none, .fields #[.str (Str.ofString "law") (nat_lit 1336), .str (Str.ofString "law") (nat_lit 1337), .str (Str.ofString "/claim/cut.py") (nat_lit 1338), .int (828) (nat_lit 0), .int (1) (nat_lit 0), .int (0) (nat_lit 0), .int (0) (nat_lit 0), .int (3) (nat_lit 0), .ref (nat_lit 815), .bool true, .int (318) (nat_lit 0), .ref (nat_lit 816), .none, .none, .none, .ref (nat_lit 817), .int (1339) (nat_lit 0), .int (828) (nat_lit 0), .str (Str.ofString "/claim/cut.py") (nat_lit 1340)], #[]⟩) ::
  (nat_lit 819, ⟨.type "function", none, .func (fnOf (Str.ofString "law") (Str.ofString "law") (fnP [40]) (fnB [40]) (fnS [40]) (.none) (.none) (.none) (.str (Str.ofString "law_in0077_01") (nat_lit 1290)) none (.ref (nat_lit 818)) (.none)), #[]⟩) :: []
noncomputable def kAs : List Addr := [nat_lit 2, nat_lit 3, nat_lit 50, nat_lit 51, nat_lit 57, nat_lit 58, nat_lit 62, nat_lit 63, nat_lit 76, nat_lit 77, nat_lit 103, nat_lit 104, nat_lit 106, nat_lit 107, nat_lit 108, nat_lit 133, nat_lit 134, nat_lit 364, nat_lit 374, nat_lit 380, nat_lit 381, nat_lit 387, nat_lit 388, nat_lit 394, nat_lit 395, nat_lit 408, nat_lit 409, nat_lit 550, nat_lit 556, nat_lit 557, nat_lit 558, nat_lit 564, nat_lit 565, nat_lit 610, nat_lit 611, nat_lit 663, nat_lit 669, nat_lit 670, nat_lit 676, nat_lit 677, nat_lit 678, nat_lit 706, nat_lit 707, nat_lit 713, nat_lit 714, nat_lit 735, nat_lit 736, nat_lit 742, nat_lit 743, nat_lit 745, nat_lit 746, nat_lit 751, nat_lit 757, nat_lit 758, nat_lit 764, nat_lit 765, nat_lit 766, nat_lit 772, nat_lit 773, nat_lit 779, nat_lit 780, nat_lit 784, nat_lit 785, nat_lit 789, nat_lit 790, nat_lit 794, nat_lit 795, nat_lit 801, nat_lit 802, nat_lit 808, nat_lit 809, nat_lit 813, nat_lit 814, nat_lit 818, nat_lit 819]
noncomputable def q0 : Program := view pw [0, 1, 40]
noncomputable def loose0 : List Str := ["_wall", "read_uint1", "read_string1", "_twin_re_1", "_whence", "_index", "UnsupportedOperation", "IOBase", "BufferedIOBase", "TextIOBase", "BytesIO", "StringIO", "_kind", "_fspath", "_check_arg_types", "isabs", "join", "join_path", "dirname", "shlex", "split", "join_shlex", "_find_unsafe", "quote", "sorted_list_difference", "_law_rows", "_law_spelled", "_law_tape", "_law_stream", "_law_read", "_law_due"]
noncomputable abbrev row0 := PySem.Challenge.rw_in0077_01.row.toRowW
noncomputable def denQ : Code → Sem PySem.Fin := PySem.W.Fast.tw11892475500146522536 PySem.W.Fast.tw14364793385576792824
theorem denQ_eq : denote treeTable = denQ := by
  unfold denQ
  rw [← PySem.W.Fast.te14364793385576792824, ← PySem.W.Fast.te11892475500146522536]
noncomputable def stepQ (p : Program) (w : World) (s : SharedT) (t : Thread) : Option (SharedT × Thread) := PySem.W.Fast.tw10156331382660048174 denQ p w s t
theorem stepQ_eq (p : Program) (w : World) (s : SharedT) (t : Thread) : stepT (denote treeTable) p w s t = stepQ p w s t := by
  rw [denQ_eq, PySem.W.Fast.te10156331382660048174]; rfl
noncomputable def importEndsQ (p : Program) (w : World) : Nat → SharedT → Thread → Option SharedT
  | 0, _, _ => none
  | n + 1, s, t => match PySem.W.Fast.tw3805553451399329143 t with
    | some [] => some s
    | some _ => none
    | none => match stepQ p w s t with
      | some (s', t') => importEndsQ p w n s' t'
      | none => none
theorem importEndsQ_eq (p : Program) (w : World) : ∀ (n : Nat) (s : SharedT) (t : Thread), importEndsT treeTable p w n s t = importEndsQ p w n s t
  | 0, _, _ => rfl
  | n + 1, s, t => by
    unfold importEndsT importEndsQ
    rw [stepQ_eq, ← PySem.W.Fast.te3805553451399329143]
    simp only [importEndsQ_eq p w n]
    try rfl
noncomputable def topRunQ (p : Program) (w : World) (n₀ : Nat) (ann : Option Value) : Nat → SharedT → Thread → Option SharedT
  | 0, _, _ => none
  | n + 1, s, t => match through t with
    | true => some s
    | false => match PySem.W.Fast.tw6613529449190102663 n₀ ann t with
      | false => none
      | true => match stepQ p w s t with
        | some (s', t') => topRunQ p w n₀ ann n s' t'
        | none => none
theorem topRunQ_eq (p : Program) (w : World) (n₀ : Nat) (ann : Option Value) : ∀ (n : Nat) (s : SharedT) (t : Thread), topRunT treeTable p w n₀ ann n s t = topRunQ p w n₀ ann n s t
  | 0, _, _ => rfl
  | n + 1, s, t => by
    unfold topRunT topRunQ
    rw [stepQ_eq, ← PySem.W.Fast.te6613529449190102663]
    simp only [topRunQ_eq p w n₀ ann n]
    try rfl
noncomputable def topFromQ (p : Program) (w : World) (N : Nat) (z : SharedT) : Option SharedT :=
  match z.abs.heap.isNs mainGlobals && z.gens.size == 0 with
  | true => (topRunQ p w z.n (z.abs.heap.nsMap mainGlobals "__annotations__") N z (topStub p)).bind fun y => match staticsOk (importedModules p.main.body) z.abs.heap y.abs.heap && namesBound p y.abs.heap && gensDone y.abs && laidKept z.abs.heap y.abs.heap with
      | true => some y
      | false => none
  | false => none
theorem topFromQ_eq (p : Program) (w : World) (N : Nat) (z : SharedT) : topFromT treeTable p w N z = topFromQ p w N z := by
  unfold topFromT topFromQ
  simp only [topRunQ_eq]
  try rfl
noncomputable def openEndsQ (p : Program) (w : World) (N : Nat) : Option SharedT :=
  (sharedT (PySem.W.Fast.tw1435165496053646825 (opening p)).1).bind fun a => (importEndsQ (opening p) w N a (PySem.W.Fast.tw1435165496053646825 (opening p)).2).bind fun b => (PySem.W.Fast.tw14289696077712309145 p b.abs).bind fun c => (sharedT c).bind fun z => topFromQ p w N z
theorem openEndsQ_eq (p : Program) (w : World) (N : Nat) : openEndsT treeTable p w N = openEndsQ p w N := by
  unfold openEndsT openEndsQ
  simp only [importEndsQ_eq, topFromQ_eq]
  rw [PySem.W.Fast.te1435165496053646825, PySem.W.Fast.te14289696077712309145]
noncomputable def kObs (s : Shared) : List (Option Obj) × List (Option Obj) := (kAs.map s.heap.get?, [760, 797].map s.heap.get?)
noncomputable def kVal (w : World) : List (Option Obj) × List (Option Obj) := ((K w.params).map fun p => some p.2, [760, 797].map fun _ => some (tabObj #[]))
noncomputable abbrev Xt0 (s : Shared) : Bool := xlAt q0 [] s && recOk row0.records s
theorem left0 : LeftO pw q0 loose0 Xt0 kObs kVal 12000 := left_of fun w => by
  rw [openEndsQ_eq, PySem.W.Fast.te4187177175401517315]
  kernel_rfl
theorem look2 {a b : Bool} (x : a = true) (y : b = true) : (a && b) = true := by rw [x, y]; rfl
theorem said0 : PySem.Challenge.rw_in0077_01.wellSaid = true := by
  rw [PySem.W.Fast.te9446332074065402090]
  delta PySem.W.Fast.tw9446332074065402090
  repeat' (first | with_reducible refine look2 ?_ ?_ | (delta PySem.W.Fast.tw17960256430627541270; with_reducible refine look2 ?_ ?_) | (delta PySem.W.Fast.tw2436336058641802641; with_reducible refine look2 ?_ ?_) | (delta PySem.W.Fast.tw12908688711261696721; with_reducible refine look2 ?_ ?_))
  all_goals decide +kernel
theorem units_under_tc (A : Around) (a : Args) : (A.under (.builtin "type.__call__" a)).units = A.units + 1 := rfl
theorem fn_lit {K : Frag} {f : Addr} {oc : Value} {od : Option Addr} {osl : Array (Option Value)} {name qual : Str} {params params' : Arguments} {body body' : List Stmt} {scope scope' : Scope} {dV kV doc pm cdv ct : Value} {an : Option Addr}
    (h : K.lookup f = some ⟨oc, od, .func (fnOf name qual params body scope dV kV doc pm an cdv ct), osl⟩) (hp : params = params') (hb : body = body') (hs : scope = scope') :
    K.lookup f = some ⟨oc, od, .func (fnOf name qual params' body' scope' dV kV doc pm an cdv ct), osl⟩ := by subst hp hb hs; exact h
noncomputable def Wants (_ : OpenLaw) (_ : Params → Frag) : Prop := True
noncomputable abbrev Claim (prog : Program) (w : World) (K : Frag) (p : Program) (loose : List Str) (mean : ExcName → Option Value) (mg mb : Str → Option Value) (news : List (Addr × Obj)) (dd uu : Nat) (cal : Sem Value) (Out : Value → List (Addr × Obj) → Prop) : Prop :=
  ∀ (dp un : Nat) (gd : Option (List Code)) (cn : Str) (cs : Scope) (a : Addr) (ccd : Value) (cl : List (Str × Addr)) (outer : List Env) (A₀ : Around) (base h₀ : Heap) (L : Addr) (m : Str → Option Value) (s : Shared) (Q E : Value → Shared → Prop),
    Below A₀ base outer h₀ → Fr h₀ L s.heap m → K.In h₀ → News h₀ L s.heap news → Top p loose mean mg mb h₀ → cs.kind = .function → dp + dd < recursionLimit → un + uu < cLine →
    (∀ v news' h' tk', Out v news' → Fr h₀ L h' m → News h₀ L h' news' → Q v { s with heap := h', toks := tk' }) →
    wpAny (model prog w) (ktrTop dp un gd cn cs L a ccd cl outer) cal Q E s
noncomputable def Stop (P : Prop) : Prop := P
theorem stop_here {P : Prop} (h : Stop P) : P := h
theorem fn_same {K : Frag} {f : Addr} {oc oc' : Value} {od od' : Option Addr} {osl osl' : Array (Option Value)} {name name' qual qual' : Str} {params params' : Arguments} {body body' : List Stmt} {scope scope' : Scope} {dV kV doc pm cdv ct dV' kV' doc' pm' cdv' ct' : Value} {an an' : Option Addr} {P : Prop}
    (h : K.lookup f = some ⟨oc, od, .func (fnOf name qual params body scope dV kV doc pm an cdv ct), osl⟩) (h' : K.lookup f = some ⟨oc', od', .func (fnOf name' qual' params' body' scope' dV' kV' doc' pm' an' cdv' ct'), osl'⟩)
    (k : body' = body → qual' = qual → scope' = scope → cdv' = cdv → P) : P := by
  rw [h] at h'
  have e := Option.some.inj h'
  injection e with e1 e2 e3 e4
  injection e3 with e5
  injection e5 with a1 a2 a3 a4 a5 a6 a7 a8 a9 a10 a11 a12 a13 a14 a15
  injection a4 with b1
  first | exact k b1.symm a2.symm a5.symm (by assumption) | (refine k b1.symm a2.symm a5.symm ?_; symm; assumption)
theorem Claim.use {prog : Program} {w : World} {K : Frag} {p : Program} {loose : List Str} {mean : ExcName → Option Value} {mg mb : Str → Option Value} {news : List (Addr × Obj)} {dd uu : Nat} {cal : Sem Value} {Out : Value → List (Addr × Obj) → Prop}
    {dp un : Nat} {gd : Option (List Code)} {cn : Str} {cs : Scope} {a : Addr} {ccd : Value} {cl : List (Str × Addr)} {outer : List Env} {A₀ : Around} {base h₀ : Heap} {L : Addr} {m : Str → Option Value} {s : Shared} {Q E : Value → Shared → Prop}
    (C : Claim prog w K p loose mean mg mb news dd uu cal Out) (B : Below A₀ base outer h₀) (F : Fr h₀ L s.heap m) (X : K.In h₀) (N : News h₀ L s.heap news) (T : Top p loose mean mg mb h₀) (hk : cs.kind = .function) (hd : dp + dd < recursionLimit) (hu : un + uu < cLine)
    (ret : ∀ v news' h' tk', Out v news' → Fr h₀ L h' m → News h₀ L h' news' → Q v { s with heap := h', toks := tk' }) :
    wpAny (model prog w) (ktrTop dp un gd cn cs L a ccd cl outer) cal Q E s := C _ _ _ _ _ _ _ _ _ _ _ _ _ _ _ _ _ B F X N T hk hd hu ret
noncomputable abbrev ClaimE (prog : Program) (w : World) (K : Frag) (p : Program) (loose : List Str) (mean : ExcName → Option Value) (mg mb : Str → Option Value) (news : List (Addr × Obj)) (dd uu : Nat) (cal : Sem Value) (X : String) (Esc : List Value → List (Addr × Obj) → Prop) : Prop :=
  ∀ (dp un : Nat) (gd : Option (List Code)) (cn : Str) (cs : Scope) (a : Addr) (ccd : Value) (cl : List (Str × Addr)) (outer : List Env) (A₀ : Around) (base h₀ : Heap) (L : Addr) (m : Str → Option Value) (s : Shared) (Q E : Value → Shared → Prop),
    Below A₀ base outer h₀ → Fr h₀ L s.heap m → K.In h₀ → News h₀ L s.heap news → Top p loose mean mg mb h₀ → cs.kind = .function → dp + dd < recursionLimit → un + uu < cLine →
    (∀ e t g vs news' h' tk', Esc vs news' → Fr h₀ L g m → RaisedS base g (envX cn cs L a ccd cl :: outer) e (.type X) t vs news' h' → g.UpToSlots h' → E (.ref e) { s with heap := h', toks := tk' }) →
    wpAny (model prog w) (ktrTop dp un gd cn cs L a ccd cl outer) cal Q E s
theorem ClaimE.use {prog : Program} {w : World} {K : Frag} {p : Program} {loose : List Str} {mean : ExcName → Option Value} {mg mb : Str → Option Value} {news : List (Addr × Obj)} {dd uu : Nat} {cal : Sem Value} {X : String} {Esc : List Value → List (Addr × Obj) → Prop}
    {dp un : Nat} {gd : Option (List Code)} {cn : Str} {cs : Scope} {a : Addr} {ccd : Value} {cl : List (Str × Addr)} {outer : List Env} {A₀ : Around} {base h₀ : Heap} {L : Addr} {m : Str → Option Value} {s : Shared} {Q E : Value → Shared → Prop}
    (C : ClaimE prog w K p loose mean mg mb news dd uu cal X Esc) (B : Below A₀ base outer h₀) (F : Fr h₀ L s.heap m) (X₀ : K.In h₀) (N : News h₀ L s.heap news) (T : Top p loose mean mg mb h₀) (hk : cs.kind = .function) (hd : dp + dd < recursionLimit) (hu : un + uu < cLine)
    (esc : ∀ e t g vs news' h' tk', Esc vs news' → Fr h₀ L g m → RaisedS base g (envX cn cs L a ccd cl :: outer) e (.type X) t vs news' h' → g.UpToSlots h' → E (.ref e) { s with heap := h', toks := tk' }) :
    wpAny (model prog w) (ktrTop dp un gd cn cs L a ccd cl outer) cal Q E s := C _ _ _ _ _ _ _ _ _ _ _ _ _ _ _ _ _ B F X₀ N T hk hd hu esc
theorem ite_bf {b : Bool} {A B : Prop} (k : B) (h : b = false := by with_reducible assumption) : if b = true then A else B := by rw [h, if_neg Bool.false_ne_true]; exact k
theorem ite_bt {b : Bool} {A B : Prop} (k : A) (h : b = true := by with_reducible assumption) : if b = true then A else B := by rw [h, if_pos rfl]; exact k
theorem ite_df {b : Bool} {A B : Prop} (k : B) (h : b = false := by decide +kernel) : if b = true then A else B := ite_bf k h
theorem ite_dt {b : Bool} {A B : Prop} (k : A) (h : b = true := by decide +kernel) : if b = true then A else B := ite_bt k h
theorem truthy_one {prog : Program} {w : World} {A : Around} {E : Value → Shared → Prop} {s : Shared} {x : Str} {t : Tok} {Q : Bool → Shared → Prop} (h : Q true { s with toks := s.toks + 1 + 1 }) (h1 : 0 < x.length ∧ x.length < 2 ^ 62 := by with_reducible assumption) : wpAny (model prog w) A (truthy (.str x t)) Q E s :=
  PySem.P.truthy_str (by have := h1.2; omega) (by rw [show ((x.length : Int) != 0) = true by simp; omega]; exact h)
theorem truthy_any {prog : Program} {w : World} {A : Around} {E : Value → Shared → Prop} {s : Shared} {x : Str} {t : Tok} {Q : Bool → Shared → Prop} (h : Q ((x.length : Int) != 0) { s with toks := s.toks + 1 + 1 }) (h1 : x.length < 2 ^ 62 := by with_reducible assumption) : wpAny (model prog w) A (truthy (.str x t)) Q E s :=
  PySem.P.truthy_str (by omega) h
theorem fr_eq {h₀ h : Heap} {L : Addr} {m m' : Str → Option Value} (F : Fr h₀ L h m) (e : m = m') : Fr h₀ L h m' := e ▸ F
structure RtMark (b : Stmt) : Prop where
theorem stop_rt {M : Model} {A : Around} {E : Value → Shared → Prop} {s : Shared} {b : Stmt} {env : Env} {Q : Flow → Shared → Prop} (_h : RtMark b) (k : Stop (wpAny M A (execs [b] env) Q E s)) : wpAny M A (execs [b] env) Q E s := k
theorem news_tl {h₀ h : Heap} {L : Addr} {p : Addr × Obj} {r : List (Addr × Obj)} (N : News h₀ L h (p :: r)) : News h₀ L h r := fun q hq => N q (.tail _ hq)
theorem with_fn {K : Frag} {f : Addr} {oc : Value} {od : Option Addr} {osl : Array (Option Value)} {name qual : Str} {params : Arguments} {body : List Stmt} {scope : Scope} {dV kV doc pm cdv ct : Value} {an : Option Addr} {P : Prop}
    (h : K.lookup f = some ⟨oc, od, .func (fnOf name qual params body scope dV kV doc pm an cdv ct), osl⟩) (k : K.lookup f = some ⟨oc, od, .func (fnOf name qual params body scope dV kV doc pm an cdv ct), osl⟩ → P) : P := k h
theorem lts1 {a1 d : Addr} {o1 : Obj} {r : List (Addr × Obj)} {P : Prop} (h : ∀ q ∈ (a1, o1) :: r, q.1 < d) (k : AllLt d r → @LT.lt Nat _ a1 d → P) : P := k (allLt_of fun q hq => h q (.tail _ hq)) (h _ (.head _))
theorem lts2 {a1 a2 d : Addr} {o1 o2 : Obj} {r : List (Addr × Obj)} {P : Prop} (h : ∀ q ∈ (a1, o1) :: (a2, o2) :: r, q.1 < d) (k : AllLt d r → @LT.lt Nat _ a1 d → @LT.lt Nat _ a2 d → P) : P := k (allLt_of fun q hq => h q (.tail _ (.tail _ hq))) (h _ (.head _)) (h _ (.tail _ (.head _)))
theorem lts3 {a1 a2 a3 d : Addr} {o1 o2 o3 : Obj} {r : List (Addr × Obj)} {P : Prop} (h : ∀ q ∈ (a1, o1) :: (a2, o2) :: (a3, o3) :: r, q.1 < d) (k : AllLt d r → @LT.lt Nat _ a1 d → @LT.lt Nat _ a2 d → @LT.lt Nat _ a3 d → P) : P := k (allLt_of fun q hq => h q (.tail _ (.tail _ (.tail _ hq)))) (h _ (.head _)) (h _ (.tail _ (.head _))) (h _ (.tail _ (.tail _ (.head _))))
theorem lts4 {a1 a2 a3 a4 d : Addr} {o1 o2 o3 o4 : Obj} {r : List (Addr × Obj)} {P : Prop} (h : ∀ q ∈ (a1, o1) :: (a2, o2) :: (a3, o3) :: (a4, o4) :: r, q.1 < d) (k : AllLt d r → @LT.lt Nat _ a1 d → @LT.lt Nat _ a2 d → @LT.lt Nat _ a3 d → @LT.lt Nat _ a4 d → P) : P := k (allLt_of fun q hq => h q (.tail _ (.tail _ (.tail _ (.tail _ hq))))) (h _ (.head _)) (h _ (.tail _ (.head _))) (h _ (.tail _ (.tail _ (.head _)))) (h _ (.tail _ (.tail _ (.tail _ (.head _)))))
theorem lts5 {a1 a2 a3 a4 a5 d : Addr} {o1 o2 o3 o4 o5 : Obj} {r : List (Addr × Obj)} {P : Prop} (h : ∀ q ∈ (a1, o1) :: (a2, o2) :: (a3, o3) :: (a4, o4) :: (a5, o5) :: r, q.1 < d) (k : AllLt d r → @LT.lt Nat _ a1 d → @LT.lt Nat _ a2 d → @LT.lt Nat _ a3 d → @LT.lt Nat _ a4 d → @LT.lt Nat _ a5 d → P) : P := k (allLt_of fun q hq => h q (.tail _ (.tail _ (.tail _ (.tail _ (.tail _ hq)))))) (h _ (.head _)) (h _ (.tail _ (.head _))) (h _ (.tail _ (.tail _ (.head _)))) (h _ (.tail _ (.tail _ (.tail _ (.head _))))) (h _ (.tail _ (.tail _ (.tail _ (.tail _ (.head _))))))
theorem lts6 {a1 a2 a3 a4 a5 a6 d : Addr} {o1 o2 o3 o4 o5 o6 : Obj} {r : List (Addr × Obj)} {P : Prop} (h : ∀ q ∈ (a1, o1) :: (a2, o2) :: (a3, o3) :: (a4, o4) :: (a5, o5) :: (a6, o6) :: r, q.1 < d) (k : AllLt d r → @LT.lt Nat _ a1 d → @LT.lt Nat _ a2 d → @LT.lt Nat _ a3 d → @LT.lt Nat _ a4 d → @LT.lt Nat _ a5 d → @LT.lt Nat _ a6 d → P) : P := k (allLt_of fun q hq => h q (.tail _ (.tail _ (.tail _ (.tail _ (.tail _ (.tail _ hq))))))) (h _ (.head _)) (h _ (.tail _ (.head _))) (h _ (.tail _ (.tail _ (.head _)))) (h _ (.tail _ (.tail _ (.tail _ (.head _))))) (h _ (.tail _ (.tail _ (.tail _ (.tail _ (.head _)))))) (h _ (.tail _ (.tail _ (.tail _ (.tail _ (.tail _ (.head _)))))))
theorem lts7 {a1 a2 a3 a4 a5 a6 a7 d : Addr} {o1 o2 o3 o4 o5 o6 o7 : Obj} {r : List (Addr × Obj)} {P : Prop} (h : ∀ q ∈ (a1, o1) :: (a2, o2) :: (a3, o3) :: (a4, o4) :: (a5, o5) :: (a6, o6) :: (a7, o7) :: r, q.1 < d) (k : AllLt d r → @LT.lt Nat _ a1 d → @LT.lt Nat _ a2 d → @LT.lt Nat _ a3 d → @LT.lt Nat _ a4 d → @LT.lt Nat _ a5 d → @LT.lt Nat _ a6 d → @LT.lt Nat _ a7 d → P) : P := k (allLt_of fun q hq => h q (.tail _ (.tail _ (.tail _ (.tail _ (.tail _ (.tail _ (.tail _ hq)))))))) (h _ (.head _)) (h _ (.tail _ (.head _))) (h _ (.tail _ (.tail _ (.head _)))) (h _ (.tail _ (.tail _ (.tail _ (.head _))))) (h _ (.tail _ (.tail _ (.tail _ (.tail _ (.head _)))))) (h _ (.tail _ (.tail _ (.tail _ (.tail _ (.tail _ (.head _))))))) (h _ (.tail _ (.tail _ (.tail _ (.tail _ (.tail _ (.tail _ (.head _))))))))
theorem lts8 {a1 a2 a3 a4 a5 a6 a7 a8 d : Addr} {o1 o2 o3 o4 o5 o6 o7 o8 : Obj} {r : List (Addr × Obj)} {P : Prop} (h : ∀ q ∈ (a1, o1) :: (a2, o2) :: (a3, o3) :: (a4, o4) :: (a5, o5) :: (a6, o6) :: (a7, o7) :: (a8, o8) :: r, q.1 < d) (k : AllLt d r → @LT.lt Nat _ a1 d → @LT.lt Nat _ a2 d → @LT.lt Nat _ a3 d → @LT.lt Nat _ a4 d → @LT.lt Nat _ a5 d → @LT.lt Nat _ a6 d → @LT.lt Nat _ a7 d → @LT.lt Nat _ a8 d → P) : P := k (allLt_of fun q hq => h q (.tail _ (.tail _ (.tail _ (.tail _ (.tail _ (.tail _ (.tail _ (.tail _ hq))))))))) (h _ (.head _)) (h _ (.tail _ (.head _))) (h _ (.tail _ (.tail _ (.head _)))) (h _ (.tail _ (.tail _ (.tail _ (.head _))))) (h _ (.tail _ (.tail _ (.tail _ (.tail _ (.head _)))))) (h _ (.tail _ (.tail _ (.tail _ (.tail _ (.tail _ (.head _))))))) (h _ (.tail _ (.tail _ (.tail _ (.tail _ (.tail _ (.tail _ (.head _)))))))) (h _ (.tail _ (.tail _ (.tail _ (.tail _ (.tail _ (.tail _ (.tail _ (.head _)))))))))
theorem lts9 {a1 a2 a3 a4 a5 a6 a7 a8 a9 d : Addr} {o1 o2 o3 o4 o5 o6 o7 o8 o9 : Obj} {r : List (Addr × Obj)} {P : Prop} (h : ∀ q ∈ (a1, o1) :: (a2, o2) :: (a3, o3) :: (a4, o4) :: (a5, o5) :: (a6, o6) :: (a7, o7) :: (a8, o8) :: (a9, o9) :: r, q.1 < d) (k : AllLt d r → @LT.lt Nat _ a1 d → @LT.lt Nat _ a2 d → @LT.lt Nat _ a3 d → @LT.lt Nat _ a4 d → @LT.lt Nat _ a5 d → @LT.lt Nat _ a6 d → @LT.lt Nat _ a7 d → @LT.lt Nat _ a8 d → @LT.lt Nat _ a9 d → P) : P := k (allLt_of fun q hq => h q (.tail _ (.tail _ (.tail _ (.tail _ (.tail _ (.tail _ (.tail _ (.tail _ (.tail _ hq)))))))))) (h _ (.head _)) (h _ (.tail _ (.head _))) (h _ (.tail _ (.tail _ (.head _)))) (h _ (.tail _ (.tail _ (.tail _ (.head _))))) (h _ (.tail _ (.tail _ (.tail _ (.tail _ (.head _)))))) (h _ (.tail _ (.tail _ (.tail _ (.tail _ (.tail _ (.head _))))))) (h _ (.tail _ (.tail _ (.tail _ (.tail _ (.tail _ (.tail _ (.head _)))))))) (h _ (.tail _ (.tail _ (.tail _ (.tail _ (.tail _ (.tail _ (.tail _ (.head _))))))))) (h _ (.tail _ (.tail _ (.tail _ (.tail _ (.tail _ (.tail _ (.tail _ (.tail _ (.head _))))))))))
theorem sub_c {α : Type} {a : α} {l L : List α} (h : a ∈ L) (k : ∀ q, q ∈ l → q ∈ L) : ∀ q, q ∈ a :: l → q ∈ L := List.forall_mem_cons.mpr ⟨h, k⟩
theorem sub_a {α : Type} {l r L : List α} (h : ∀ q, q ∈ l → q ∈ L) (k : ∀ q, q ∈ r → q ∈ L) : ∀ q, q ∈ l ++ r → q ∈ L := List.forall_mem_append.mpr ⟨h, k⟩
section
variable {prog : Program} {w : World} {A A₀ : Around} {K : Frag} {L : Addr} {h h₀ base : Heap} {gs : Array GenState} {dr : Drawn} {t : Nat} {os : OsState} {m mg mb : Str → Option Value} {news : List (Addr × Obj)} {p : Program} {loose : List Str} {mean : ExcName → Option Value}
theorem rm0 {a k l : Nat} (h : a + k < l := by with_reducible assumption) : a < l := Nat.lt_of_le_of_lt (Nat.le_add_right a k) h
theorem rmk {a k j l : Nat} (h : a + k < l := by with_reducible assumption) (e : Nat.ble j k = true := by exact rfl) : a + j < l := Nat.lt_of_le_of_lt (Nat.add_le_add_left (Nat.le_of_ble_eq_true e) a) h
theorem rm_u {C : Addr} {vals : List Value} {kw : List (Str × Value)} {k l : Nat} (h : A.depth + (k + 1) < l := by with_reducible assumption) : (A.under (.builtin "type.__call__" ⟨.ref C :: vals, kw⟩)).depth + k < l := by have := depth_under_kw A C vals kw; omega
theorem rm_v {c : Args} {k l : Nat} (h : A.units + (k + 1) < l := by with_reducible assumption) : (A.under (.builtin "type.__call__" c)).units + k < l := by have := units_under_tc A c; omega
theorem rm_i {k l : Nat} (h : A.units + (k + 1) < l := by with_reducible assumption) : A.in1.units + k < l := by have : A.in1.units = A.units + 1 := rfl; omega
theorem rm_w {a k l : Nat} (h : a + 1 < l := by ktr_room) (e : k = 0 := by exact rfl) : a + (k + 1) < l := e ▸ h
theorem rm_x {a k l : Nat} (h : a + 3 < l := by ktr_units) (e : k = 0 := by exact rfl) : a + (k + 3) < l := e ▸ h
variable {env : Env} {outer : List Env} {R : Result → Shared → Prop} {name qual : Str} {params : Arguments} {body : List Stmt} {scope : Scope} {dV kV doc pm cdv ct oc : Value} {an od : Option Addr} {osl : Array (Option Value)} {f : Addr} {args : Args} {binds : List (Str × Value)}
theorem ent {j i : Nat} (H : let bs := binds; let gs' := gs; let dr' := dr; let os' := os; ∀ g L' h₁ tk, Fr h₀ L g m → Fr g L' h₁ (fun y => bs.reverse.lookup y) → News g L' h₁ news → K.In g → Top p loose mean mg mb g →
      let A' := A.deeper (envOf qual scope L' f cdv)
      A'.depth + j < recursionLimit → A'.units + i < cLine → Below A base (env :: outer) g →
      wpAny (model prog w) A' (execs body (envOf qual scope L' f cdv))
        (fun fl s' => LeaveK h₀ L m g R (match fl with | .ret v => v | _ => .none) s')
        (fun e s' => wpAny (model prog w) A' (leaving (envOf qual scope L' f cdv) e) (fun _ s'' => R (.error e) s'') (fun e' s'' => R (.error e') s'') s')
        ⟨h₁, gs', dr', tk, os'⟩)
    (hA : A.frames = some (env :: outer) := by exact rfl) (hf : env.frame = some L := by exact rfl) (hke : env.scope.kind = .function := by first | exact rfl | assumption)
    (B : Below A₀ base outer h₀ := by k_asm) (F : Fr h₀ L h m := by k_asm) (X₀ : K.In h₀ := by k_asm) (N : News h₀ L h news := by k_asm) (T : Top p loose mean mg mb h₀ := by k_asm)
    (ho : K.lookup f = some ⟨oc, od, .func (fnOf name qual params body scope dV kV doc pm an cdv ct), osl⟩ := by walk_at "Mine.KN") (hcd : codeIn K cdv qual = true := by k_is) (hd : A.depth + (j + 1) < recursionLimit := by walk_at "RM") (hu : A.units + (i + 3) < cLine := by walk_at "RM")
    (hbind : BindsTo ⟨h, gs, dr, t, os⟩ (fnOf name qual params body scope dV kV doc pm an cdv ct) args binds := by first | exact BindsTo.of_eq rfl | exact binds_K (by k_in) rfl (by k_is) rfl rfl rfl) (hcell : ∀ x ∈ scope.names, x.2 ≠ .cell := by decide) (hloc : ∀ y ∈ binds, scope.names.lookup y.1 = some .local := by exact locs rfl)
    (hco : scope.isCoroutine = false := by exact rfl) (hgen : scope.isGenerator = false := by exact rfl) (hk : scope.kind = .function := by exact rfl) : codeAny (model prog w) A (.call (.ref f) args) R ⟨h, gs, dr, t, os⟩ :=
  code_def B F X₀ N T hA hf hke ho hcd (rm0 hd) hbind hloc (fun g L' h₁ FG F' N' B' X' T' => H g L' h₁ _ FG F' N' X' T' (by show A.depth + 1 + j < _; omega) (by show A.units + 3 + i < _; omega) B') hco hgen hk hcell
theorem entC {j i : Nat} (H : let gs' := gs; let dr' := dr; let os' := os; ∀ g L' h₁ tk cells, Fr h₀ L g m → Fr g L' h₁ (bindL (envOfC qual scope L' f cdv).kindOf binds fun _ => none) → K.In g → Top p loose mean mg mb g →
      let A' := A.deeper (envOfC qual scope L' f cdv)
      A'.depth + j < recursionLimit → A'.units + i < cLine → News g L' h₁ (cells ++ news) →
      CellsAre (bindC (envOfC qual scope L' f cdv).kindOf binds fun _ => none) (cellsFrom (L' + 1) scope.names []) cells → (∀ p ∈ news, p.1 < L') → Below A base (env :: outer) g →
      wpAny (model prog w) A' (execs body (envOfC qual scope L' f cdv))
        (fun fl s' => LeaveK h₀ L m g R (match fl with | .ret v => v | _ => .none) s')
        (fun e s' => wpAny (model prog w) A' (leaving (envOfC qual scope L' f cdv) e) (fun _ s'' => R (.error e) s'') (fun e' s'' => R (.error e') s'') s')
        ⟨h₁, gs', dr', tk, os'⟩)
    (hA : A.frames = some (env :: outer) := by exact rfl) (hf : env.frame = some L := by exact rfl) (hke : env.scope.kind = .function := by first | exact rfl | assumption)
    (B : Below A₀ base outer h₀ := by k_asm) (F : Fr h₀ L h m := by k_asm) (X₀ : K.In h₀ := by k_asm) (N : News h₀ L h news := by k_asm) (T : Top p loose mean mg mb h₀ := by k_asm)
    (ho : K.lookup f = some ⟨oc, od, .func (fnOf name qual params body scope dV kV doc pm an cdv ct), osl⟩ := by walk_at "Mine.KN") (hcd : codeIn K cdv qual = true := by k_is) (hd : A.depth + (j + 1) < recursionLimit := by walk_at "RM") (hu : A.units + (i + 3) < cLine := by walk_at "RM")
    (hbind : BindsTo ⟨h, gs, dr, t, os⟩ (fnOf name qual params body scope dV kV doc pm an cdv ct) args binds := by first | exact BindsTo.of_eq rfl | exact binds_K (by k_in) rfl (by k_is) rfl rfl rfl) (hkind : (binds.all fun y => scope.names.lookup y.1 == some .local || scope.names.lookup y.1 == some .cell) = true := by exact rfl)
    (hnd : ((cellsFrom 0 scope.names []).map (·.1)).Nodup := by decide +kernel) (hco : scope.isCoroutine = false := by exact rfl) (hgen : scope.isGenerator = false := by exact rfl) (hk : scope.kind = .function := by exact rfl) : codeAny (model prog w) A (.call (.ref f) args) R ⟨h, gs, dr, t, os⟩ :=
  code_defC B F X₀ N T hA hf hke ho hcd (rm0 hd) hbind hkind hnd (fun g L' h₁ tk cells FG F' N' Y B' X' T' l => H g L' h₁ tk cells FG F' X' T' (by show A.depth + 1 + j < _; omega) (by show A.units + 3 + i < _; omega) N' Y l B') hco hgen hk
theorem entN {j i : Nat} {cl : List (Str × Addr)} {ctv : Value} {c' : Addr} (H : let gs' := gs; let dr' := dr; let os' := os; ∀ g L' h₁ tk, Fr h₀ L g m → Fr g L' h₁ (fun y => binds.reverse.lookup y) → News g L' h₁ news → K.In g → Top p loose mean mg mb g →
      let A' := A.deeper (envX qual scope L' f (.ref c') cl)
      A'.depth + j < recursionLimit → A'.units + i < cLine → Below A base (env :: outer) g →
      wpAny (model prog w) A' (execs body (envX qual scope L' f (.ref c') cl))
        (fun fl s' => LeaveK h₀ L m g R (match fl with | .ret v => v | _ => .none) s')
        (fun e s' => wpAny (model prog w) A' (leaving (envX qual scope L' f (.ref c') cl) e) (fun _ s'' => R (.error e) s'') (fun e' s'' => R (.error e') s'') s')
        ⟨h₁, gs', dr', tk, os'⟩)
    (hA : A.frames = some (env :: outer) := by exact rfl) (hf : env.frame = some L := by exact rfl) (hke : env.scope.kind = .function := by first | exact rfl | assumption)
    (B : Below A₀ base outer h₀ := by k_asm) (F : Fr h₀ L h m := by k_asm) (X₀ : K.In h₀ := by k_asm) (N : News h₀ L h news := by k_asm) (T : Top p loose mean mg mb h₀ := by k_asm)
    (ho : (f, fnMade name qual params body scope cl doc pm c' ctv) ∈ news := by k_mem) (hcd : h.CodeRec (.ref c') qual := by exact codeRec_news (by k_asm) (by k_mem) (by assumption) (by assumption)) (hd : A.depth + (j + 1) < recursionLimit := by walk_at "RM") (hu : A.units + (i + 3) < cLine := by walk_at "RM")
    (hbind : BindsTo ⟨h, gs, dr, t, os⟩ (fnX name qual params body scope cl .none .none doc pm none (.ref c') ctv) args binds := by exact BindsTo.of_eq rfl) (hcell : ∀ x ∈ scope.names, x.2 ≠ .cell := by decide) (hloc : ∀ y ∈ binds, scope.names.lookup y.1 = some .local := by exact locs rfl)
    (hco : scope.isCoroutine = false := by exact rfl) (hgen : scope.isGenerator = false := by exact rfl) (hk : scope.kind = .function := by exact rfl) : codeAny (model prog w) A (.call (.ref f) args) R ⟨h, gs, dr, t, os⟩ :=
  code_nest B F X₀ N T hA hf hke ho hcd (rm0 hd) hbind hloc (fun g L' h₁ FG F' N' B' X' T' => H g L' h₁ _ FG F' N' X' T' (by show A.depth + 1 + j < _; omega) (by show A.units + 3 + i < _; omega) B') hco hgen hk hcell
theorem Claim.useA {dd uu : Nat} {cal : Sem Value} {Out : Value → List (Addr × Obj) → Prop} {cn : Str} {cs : Scope} {a : Addr} {ccd : Value} {cl : List (Str × Addr)} {Q E : Value → Shared → Prop}
    (C : Claim prog w K p loose mean mg mb news dd uu cal Out) (hA : A.frames = some (envX cn cs L a ccd cl :: outer)) (hh : A.handled = none) (B : Below A₀ base outer h₀) (F : Fr h₀ L h m) (X : K.In h₀) (N : News h₀ L h news) (T : Top p loose mean mg mb h₀) (hk : cs.kind = .function) (hd : A.depth + dd < recursionLimit) (hu : A.units + uu < cLine)
    (ret : ∀ v news' h' tk', Out v news' → Fr h₀ L h' m → News h₀ L h' news' → Q v ⟨h', gs, dr, tk', os⟩) :
    wpAny (model prog w) A cal Q E ⟨h, gs, dr, t, os⟩ := by
  obtain ⟨_, d, _, g, u⟩ := A
  cases hA
  cases hh
  exact C d u g cn cs a ccd cl outer A₀ base h₀ L m _ Q E B F X N T hk hd hu ret
end
theorem ex_one {M : Model} {A : Around} {E : Value → Shared → Prop} {s : Shared} {b : Stmt} {env : Env} {Q : Flow → Shared → Prop} (H : wpAny M A (exec b env) Q E s) : wpAny M A (execs [b] env) Q E s :=
  wpAny_execs_cons (wpAny_mono H (fun f s' q => by cases f <;> first | exact wpAny_execs_nil q | exact q) fun _ _ e => e)
theorem stop_go {P : Prop} (h : P) : Stop P := h
section
variable {h₀ h : Heap} {L d : Addr} {a : Addr × Obj} {r : List (Addr × Obj)} {es : List DictEntry} {n : Nat} {P : Prop}
theorem fold1 (N : News h₀ L h (a :: (d, dictOf es n) :: r)) (k : let es' := es; News h₀ L h (a :: (d, dictOf es' n) :: r) → P) : P := k N
end
theorem updF_upd {d : Addr} {o o' : Obj} {l : List (Addr × Obj)} {g : Obj → List (Addr × Obj)} (h : UpdF d o l g) : Upd d o o' l (g o') := by
  induction h with
  | head h => exact .head h
  | tail h _ k => exact .tail h k
theorem set_let {prog : Program} {w : World} {A : Around} {E : Value → Shared → Prop} {K : Frag} {x C dx L : Addr} {h h₀ : Heap} {gs : Array GenState} {dr : Drawn} {t : Nat} {os : OsState} {m : Str → Option Value} {news : List (Addr × Obj)} {ox : Obj} {es es' : List DictEntry} {n n' : Nat} {name : Str} {v : Value} {Q : Unit → Shared → Prop} {g : Obj → List (Addr × Obj)}
    (H : let z := es'; ∀ h' tk, Fr h₀ L h' m → News h₀ L h' (g (dictOf z n')) → Q () ⟨h', gs, dr, tk, os⟩)
    (F : Fr h₀ L h m := by k_asm) (X₀ : K.In h₀ := by k_asm) (N : News h₀ L h news := by k_asm) (I : InstAt h x ox C (some (dictOf es n)) := by k_inst) (hd : ox.dict = some dx := by exact rfl)
    (hs : findIn K (.ref C) "__setattr__" = some (some (.builtin "object.__setattr__")) := by k_is) (hp : plainOver K C = true := by k_is) (ht : takerIn K C name = some none := by k_is) (hh : hasDictIn K C = true := by k_is) (hl : (getL name es).isSome = true := by k_get)
    (e : (putL name (PyData.keyHash w.params name) (.str name (t + 1)) v es, putN name es n) = (es', n') := by k_put) (U : UpdF dx (dictOf es n) news g := by k_updF) (hz : es'.length ≤ 1000 := by exact Nat.le_of_ble_eq_true rfl) :
    wpAny (model prog w) A (setAttr (.ref x) name v) Q E ⟨h, gs, dr, t, os⟩ :=
  set_dict F X₀ N I hd hs hp ht hh hl e (updF_upd U) hz fun h' F' N' => H h' _ F' N'
theorem store_let {M : Model} {A : Around} {E : Value → Shared → Prop} {cn : Str} {cs : Scope} {a : Addr} {ccd : Value} {cl : List (Str × Addr)} {L : Addr} {h h₀ : Heap} {gs : Array GenState} {dr : Drawn} {t : Nat} {os : OsState} {m : Str → Option Value} {news : List (Addr × Obj)} {x : Str} {v : Value} {Q : Unit → Shared → Prop}
    (H : let m' : Str → Option Value := fun y => if y = x then some v else m y; ∀ h' tk, Fr h₀ L h' m' → News h₀ L h' news → Q () ⟨h', gs, dr, tk, os⟩)
    (F : Fr h₀ L h m := by k_asm) (N : News h₀ L h news := by k_asm) (hk : cs.kind = .function := by rfl) (hx : (envX cn cs L a ccd cl).kindOf x = some .local := by rfl) : wpAny M A (storeName (envX cn cs L a ccd cl) x v) Q E ⟨h, gs, dr, t, os⟩ :=
  storeX_L F N (fun h' F' N' => H h' _ F' N') hk hx
theorem fc {α : Type} {P : α → Prop} {a : α} {l : List α} (h : P a) (k : ∀ q ∈ l, P q) : ∀ q ∈ a :: l, P q := List.forall_mem_cons.mpr ⟨h, k⟩
theorem fa {α : Type} {P : α → Prop} {l r : List α} (h : ∀ q ∈ l, P q) (k : ∀ q ∈ r, P q) : ∀ q ∈ l ++ r, P q := List.forall_mem_append.mpr ⟨h, k⟩
theorem f0 {α : Type} {P : α → Prop} : ∀ q ∈ ([] : List α), P q := fun _ h => nomatch h
theorem an3 {a b c P : Prop} (h : a ∧ b ∧ c) (k : a → b → c → P) : P := k h.1 h.2.1 h.2.2
theorem an4 {a b c d P : Prop} (h : a ∧ b ∧ c ∧ d) (k : a → b → c → d → P) : P := k h.1 h.2.1 h.2.2.1 h.2.2.2
theorem an5 {a b c d e P : Prop} (h : a ∧ b ∧ c ∧ d ∧ e) (k : a → b → c → d → e → P) : P := k h.1 h.2.1 h.2.2.1 h.2.2.2.1 h.2.2.2.2
theorem an6 {a b c d e f P : Prop} (h : a ∧ b ∧ c ∧ d ∧ e ∧ f) (k : a → b → c → d → e → f → P) : P := k h.1 h.2.1 h.2.2.1 h.2.2.2.1 h.2.2.2.2.1 h.2.2.2.2.2
theorem an7 {a b c d e f g P : Prop} (h : a ∧ b ∧ c ∧ d ∧ e ∧ f ∧ g) (k : a → b → c → d → e → f → g → P) : P := k h.1 h.2.1 h.2.2.1 h.2.2.2.1 h.2.2.2.2.1 h.2.2.2.2.2.1 h.2.2.2.2.2.2
theorem an8 {a b c d e f g i P : Prop} (h : a ∧ b ∧ c ∧ d ∧ e ∧ f ∧ g ∧ i) (k : a → b → c → d → e → f → g → i → P) : P := k h.1 h.2.1 h.2.2.1 h.2.2.2.1 h.2.2.2.2.1 h.2.2.2.2.2.1 h.2.2.2.2.2.2.1 h.2.2.2.2.2.2.2
section
variable {M : Model} {A : Around} {E : Value → Shared → Prop} {base g g₂ h hp : Heap} {outer : List Env} {L a e : Addr} {m : Str → Option Value} {name : Str} {scope : Scope} {cd : Value} {Q : Unit → Shared → Prop} {news : List (Addr × Obj)} {gs : Array GenState} {dr : Drawn} {tk : Nat} {os : OsState}
theorem lvNew {cls : String} (H : ∀ h', RaisedSN base g outer e (.type cls) news h' → g.UpToSlots h' → Q () ⟨h', gs, dr, tk, os⟩) (hx : Heap.NewExc h hp e cls := by first | assumption | exact Heap.MadeExc.newExc (by assumption)) (K : Below A base outer g := by assumption) (F : Fr g L h m := by assumption) (N : News g L h news := by k_asm) (hk : scope.kind = .function := by rfl) :
    wpAny M (A.deeper (envOf name scope L a cd)) (leaving (envOf name scope L a cd) (.ref e)) Q E ⟨hp, gs, dr, tk, os⟩ := leave_newS K hx F N (fun h' R _ U => H h' R U) hk
theorem lvOn {cls : Value} (H : ∀ h', RaisedSN base g outer e cls news h' → g.UpToSlots h' → Q () ⟨h', gs, dr, tk, os⟩) (R : RaisedSN base g₂ (envOf name scope L a cd :: outer) e cls news hp := by assumption) (K : Below A base outer g := by assumption) (F : Fr g L g₂ m := by assumption) (hsm : g₂.UpToSlots hp := by assumption) :
    wpAny M (A.deeper (envOf name scope L a cd)) (leaving (envOf name scope L a cd) (.ref e)) Q E ⟨hp, gs, dr, tk, os⟩ := leave_onSN K F R hsm fun h' R _ U => H h' R U
theorem lvRaise {cls : Value} {vs : List Value} (H : ∀ h' t, RaisedS base g outer e cls t vs news h' → g.UpToSlots h' → Q () ⟨h', gs, dr, tk, os⟩) (hx : Heap.MadeExcOf h hp e cls vs := by first | assumption | exact Heap.MadeExc.of (by assumption)) (K : Below A base outer g := by assumption) (F : Fr g L h m := by assumption) (N : News g L h news := by k_asm) (hk : scope.kind = .function := by rfl) :
    wpAny M (A.deeper (envOf name scope L a cd)) (leaving (envOf name scope L a cd) (.ref e)) Q E ⟨hp, gs, dr, tk, os⟩ := leave_raiseS K hx F N (fun h' t R _ U => H h' t R U) hk
end
local macro_rules | `(tactic| ktr_units) => `(tactic| (simp only [units_under_tc]; ktr_units))
local macro_rules | `(tactic| walk_at "WHNF") => `(tactic| ((conv => lhs; whnf); (try exact rfl)))
local macro_rules | `(tactic| walk_at "Mine.KN") => `(tactic| (refine' fn_lit ?q1 ?q2 ?q3 ?q4; (case q1 => k_is); (case q2 => walk_at "WHNF"); (case q3 => walk_at "WHNF"); (case q4 => walk_at "WHNF")))
local macro_rules | `(tactic| walk_at "RM") => `(tactic| first | with_reducible assumption | exact rm_u | exact rm_v | exact rm_i | exact rm_w | exact rm_x)
local macro_rules | `(tactic| ktr_room) => `(tactic| first | exact rm0 | exact rmk)
local macro_rules | `(tactic| k_enter) => `(tactic| first
  | (k_dflt (refine ent ?_); k_whole; intros; rename_i B'; (try dsimp only); (try k_lift B'); (try k_fold))
  | (k_dflt (refine entC ?_); k_whole; intros; rename_i N' Y' l1 B'; (try k_lt l1); k_cells Y'; (try simp only [List.cons_append, List.nil_append] at N'); (try dsimp only); (try k_lift B'); (try k_fold)))
local macro_rules | `(tactic| kn_enter) => `(tactic| (refine entN ?_; k_whole; intros; rename_i B'; (try dsimp only); (try k_lift B'); (try k_fold)))
local macro_rules | `(tactic| ktr_call $n $f) => `(tactic| ((with_reducible show wpAny _ _ (call (Value.ref $n) _ _) _ _ _); (with_reducible rename News _ _ _ _ => lN'); k_dflt (refine $f lN' ?_); clear lN'; intros; (try dsimp only); (try k_fold)))
local macro_rules | `(tactic| k_room) => `(tactic| ktr_room)
local macro_rules | `(tactic| ktr_units) => `(tactic| first | exact rm0 | exact rmk)
local macro_rules | `(tactic| k_units) => `(tactic| ktr_units)
local macro_rules | `(tactic| walk_at "ENTER") => `(tactic| (refine wpAny_call ?_; k_enter))
local macro_rules | `(tactic| walk_at "ite") => `(tactic| (with_reducible first | refine ite_bf ?_ | refine ite_bt ?_ | refine ite_dt ?_ | refine ite_df ?_))
local macro_rules | `(tactic| walk_at "truthy str") => `(tactic| k_dflt (first | refine truthy_one ?_ | refine truthy_any ?_))
local macro_rules | `(tactic| walk_at "inplaceOp Add str str") => `(tactic| ((k_dflt (refine SBL.iadd (hsz := ?hsz) ?_)); (case hsz => with_reducible assumption); intro _ _ _))
local macro_rules | `(tactic| walk_at "exec If") => `(tactic| (with_reducible refine wpAny_If ?_))
local macro_rules | `(tactic| walk_at "execs cons") => `(tactic| (with_reducible (first | refine ex_one ?_ | (refine wpAny_execs_cons ?_; try dsimp only))))
local macro_rules | `(tactic| walk_at "isTrue Compare") => `(tactic| (with_reducible refine wpAny_isTrue_Compare1 ?_))
local macro_rules | `(tactic| k_ne) => `(tactic| (refine neN ?_; (try dsimp only); first | exact Nat.ne_of_lt (by assumption) | exact Nat.ne_of_gt (by assumption) | assumption | exact Ne.symm (by assumption) | omega))
local macro_rules | `(tactic| k_all) => `(tactic| assumption)
local macro_rules | `(tactic| walk_at "MEM") => `(tactic| with_reducible first | assumption | apply List.mem_cons_self | (apply List.mem_cons_of_mem; walk_at "MEM") | (apply List.mem_append_left; walk_at "MEM") | (apply List.mem_append_right; walk_at "MEM"))
local macro_rules | `(tactic| walk_at "SUBM") => `(tactic| repeat' (first | refine sub_c (by walk_at "MEM") ?_ | refine sub_a ?_ ?_ | (intro q9 hq9; first | walk_at "MEM" | exact nomatch hq9)))
local macro_rules | `(tactic| walk_at "setAttr ref") => `(tactic| (k_here; first | ktx_write | (k_dflt (refine set_let ?_); k_whole; intros; (try k_sweep))))
local macro_rules | `(tactic| walk_at "storeName") => `(tactic| (k_here; first | ktx_write | (k_dflt (refine store_let ?_); k_whole; intros; (try k_sweep))))
local macro_rules | `(tactic| omega) => `(tactic| ((fail_if_success (fail_if_success omega +splitDisjunctions)); lia))
noncomputable def TextsAre : List Value → List Str → Prop
  | [], [] => True
  | v :: vs, w :: ws => (∃ t, v = .str w t) ∧ TextsAre vs ws
  | _, _ => False
theorem TextsAre.snoc {v : Value} {w : Str} (h : ∃ t, v = .str w t) : ∀ {vs : List Value} {ws : List Str}, TextsAre vs ws → TextsAre (vs ++ [v]) (ws ++ [w])
  | [], [], _ => ⟨h, trivial⟩
  | _ :: _, _ :: _, ⟨a, b⟩ => ⟨a, b.snoc h⟩
  | [], _ :: _, x => x.elim
  | _ :: _, [], x => x.elim
theorem news_S {h₀ h h' : Heap} {L S : Addr} {o o' : Obj} {pre rest : List (Addr × Obj)} (N : News h₀ L h (pre ++ (S, o) :: rest)) (h1 : ∀ q ∈ pre, q.1 ≠ S) (h2 : ∀ q ∈ rest, q.1 ≠ S) (k : ∀ b o, b ≠ S → h.get? b = some o → h'.get? b = some o) (e : h'.get? S = some o') : News h₀ L h' (pre ++ (S, o') :: rest) := fun q hq => by
  rcases List.mem_append.mp hq with hq | hq
  · exact ⟨k _ _ (h1 q hq) (N q (List.mem_append_left _ hq)).1, (N q (List.mem_append_left _ hq)).2⟩
  · rcases List.mem_cons.mp hq with rfl | hq
    · exact ⟨e, (N (S, o) (List.mem_append_right _ List.mem_cons_self)).2⟩
    · exact ⟨k _ _ (h2 q hq) (N q (List.mem_append_right _ (List.mem_cons_of_mem _ hq))).1, (N q (List.mem_append_right _ (List.mem_cons_of_mem _ hq))).2⟩
theorem seq_push (acc : List Value) (v : Value) (n : Nat) : Obj.mapSeq (·.push v) (listOf acc.toArray n) = listOf (acc ++ [v]).toArray (n + 1) := by
  show Obj.mk _ _ (.seq (acc.toArray.push v) (if (acc.toArray.push v).size == acc.toArray.size then n else n + 1)) _ = _
  have e : ((acc.toArray.push v).size == acc.toArray.size) = false := by simp
  rw [e, List.push_toArray]
  rfl
theorem upd_S {h₀ h : Heap} {L S : Addr} {m : Str → Option Value} {f : Obj → Obj} {o : Obj} {rest : List (Addr × Obj)} (F : Fr h₀ L h m) (N : News h₀ L h ((S, o) :: rest)) (hr : ∀ q ∈ rest, q.1 ≠ S) (hf : (f o).isFreed = false ∨ True) (ho : o.isFreed = false) :
    Fr h₀ L (h.update S f) m ∧ ((h.update S f).get? S = some (f o) → News h₀ L (h.update S f) ((S, f o) :: rest)) :=
  have hS := N (S, o) List.mem_cons_self
  let _ := hf
  let _ := ho
  ⟨F.change (Heap.SameBut.update ..) hS.2.1 hS.2.2, fun e q hq => by
    rcases List.mem_cons.mp hq with rfl | hq
    · exact ⟨e, hS.2⟩
    · exact ⟨(Heap.get?_update_other _ _ (Ne.symm (hr q hq))).trans (N q (List.mem_cons_of_mem _ hq)).1, (N q (List.mem_cons_of_mem _ hq)).2⟩⟩
theorem news_mid {h₀ h : Heap} {L : Addr} {c : Addr × Obj} {pre rest : List (Addr × Obj)} (N : News h₀ L h (c :: (pre ++ rest))) : News h₀ L h (pre ++ c :: rest) := fun q hq => by
  refine N q ?_
  rcases List.mem_append.mp hq with hq | hq
  · exact List.mem_cons_of_mem _ (List.mem_append_left _ hq)
  · rcases List.mem_cons.mp hq with rfl | hq
    · exact List.mem_cons_self
    · exact List.mem_cons_of_mem _ (List.mem_append_right _ hq)
theorem texts_len : ∀ {vs : List Value} {ws : List Str}, TextsAre vs ws → vs.length = ws.length
  | [], [], _ => rfl
  | _ :: _, _ :: _, ⟨_, h⟩ => congrArg (· + 1) (texts_len h)
  | [], _ :: _, h => h.elim
  | _ :: _, [], h => h.elim
theorem texts_take : ∀ {vs : List Value} {ws : List Str} (i : Nat), TextsAre vs ws → TextsAre (vs.take i) (ws.take i)
  | _, _, 0, _ => by simp [TextsAre]
  | [], [], _ + 1, _ => trivial
  | _ :: _, _ :: _, i + 1, ⟨a, b⟩ => ⟨a, texts_take i b⟩
  | [], _ :: _, _ + 1, h => h.elim
  | _ :: _, [], _ + 1, h => h.elim
theorem texts_at : ∀ {vs : List Value} {ws : List Str} {i : Nat} {v : Value}, TextsAre vs ws → vs[i]? = some v → ∃ y t, ws[i]? = some y ∧ v = .str y t := by
  intro vs
  induction vs with
  | nil => intro ws i v _ h; simp at h
  | cons a r ih =>
    intro ws
    cases ws with
    | nil => intro i v hv h; exact hv.elim
    | cons b q =>
      intro i v hv h
      obtain ⟨⟨t, rfl⟩, hr⟩ := hv
      cases i with
      | zero => simp at h; subst h; exact ⟨b, t, rfl, rfl⟩
      | succ i =>
        obtain ⟨y, t', h1, h2⟩ := ih hr (by simpa using h)
        exact ⟨y, t', by simpa using h1, h2⟩
theorem ints_of_rel : ∀ {ys : List Value} {zs : List Int}, ys.length = zs.length → (∀ (i : Nat) v, ys[i]? = some v → ∃ (z : Int) (u : Tok), zs[i]? = some z ∧ v = .int z u) → IntsAre ys zs := by
  intro ys
  induction ys with
  | nil => intro zs hl _; cases zs with | nil => exact .nil | cons => simp at hl
  | cons v q ih =>
    intro zs hl hr
    cases zs with
    | nil => simp at hl
    | cons c r =>
      obtain ⟨c', u, h1, h2⟩ := hr 0 v rfl
      simp at h1
      subst h1
      subst h2
      exact .cons _ u (ih (by simpa using hl) fun i w hw => by simpa using hr (i + 1) w (by simpa using hw))
theorem pick_upto (its : List Value) (k : Nat) : (slicePick its.toArray none (some (k : Int)) none).toList = its.take k := by rw [slicePick_upto']
theorem pick_upto_of (its : List Value) {k : Nat} {x : Int} (h : x = (k : Int)) : (slicePick its.toArray none (some x) none).toList = its.take k := by rw [h, pick_upto]
theorem exec_asg {M : Model} {A : Around} {E : Value → Shared → Prop} {s : Shared} {env : Env} {Q : Flow → Shared → Prop} {x : Str} {p' pos : Pos} {value : Expr} (hs : swapsWith value (some (.Name x p')) pos.line env = pure false)
    (h : wpAny M A (eval value env) (fun v s' => wpAny M A (storeName env x v) (fun _ s'' => Q .next s'') E s') E s) : wpAny M A (exec (.Assign [.Name x p'] value pos) env) Q E s := by
  rw [exec_Assign_Name _ _ _ _ _ hs]
  refine wpAny_bind (wpAny_standAt (wpAny_bind (wpAny_mono h (fun v s' h' => ?_) fun _ _ e => e)))
  exact wpAny_bind (wpAny_standAt (wpAny_bind (wpAny_bindName (wpAny_mono h' (fun _ _ q => wpAny_pure q) fun _ _ e => e))))
theorem news_sub {h₀ h : Heap} {L : Addr} {a b : List (Addr × Obj)} (N : News h₀ L h a) (k : ∀ q ∈ b, q ∈ a) : News h₀ L h b := fun q hq => N q (k q hq)
noncomputable abbrev tupD (vs : Array Value) : Obj := { cls := .type "tuple", data := .seq vs }
theorem texts_strs : ∀ {vs : List Value} {ws : List Str}, TextsAre vs ws → StrsAre vs ws
  | [], [], _ => .nil
  | _ :: _, _ :: _, ⟨⟨t, e⟩, h⟩ => by subst e; exact .cons _ t (texts_strs h)
  | [], _ :: _, h => h.elim
  | _ :: _, [], h => h.elim
theorem TextsAre.cons' {w : Str} {t : Tok} {vs : List Value} {ws : List Str} (h : TextsAre vs ws) : TextsAre (.str w t :: vs) (w :: ws) := ⟨⟨t, rfl⟩, h⟩
theorem TextsAre.nil' : TextsAre [] [] := trivial
theorem ints_at : ∀ {vs : List Value} {ns : List Int} {i : Nat} {v : Value}, IntsAre vs ns → vs[i]? = some v → ∃ x t, ns[i]? = some x ∧ v = .int x t := by
  intro vs
  induction vs with
  | nil => intro ns i v _ h; simp at h
  | cons a r ih =>
    intro ns i v hv h
    cases hv with
    | cons z t hr =>
      cases i with
      | zero => simp at h; subst h; exact ⟨z, t, rfl, rfl⟩
      | succ i =>
        obtain ⟨y, t', h1, h2⟩ := ih hr (by simpa using h)
        exact ⟨y, t', by simpa using h1, h2⟩
theorem strs_of_rel : ∀ {ys : List Value} {zs : List Str}, ys.length = zs.length → (∀ (i : Nat) v, ys[i]? = some v → ∃ (z : Str) (u : Tok), zs[i]? = some z ∧ v = .str z u) → StrsAre ys zs := by
  intro ys
  induction ys with
  | nil => intro zs hl _; cases zs with | nil => exact .nil | cons => simp at hl
  | cons v q ih =>
    intro zs hl hr
    cases zs with
    | nil => simp at hl
    | cons c r =>
      obtain ⟨c', u, h1, h2⟩ := hr 0 v rfl
      simp at h1
      subst h1
      subst h2
      exact .cons _ u (ih (by simpa using hl) fun i w hw => by simpa using hr (i + 1) w (by simpa using hw))
theorem with_fr {P : Prop} {h₀ h : Heap} {L : Addr} {m : Str → Option Value} (_F : Fr h₀ L h m) (k : ∀ h₀' L' h', h₀' = h₀ → L' = L → h' = h → P) : P := k _ _ _ rfl rfl rfl
theorem fr_one {g h : Heap} {L : Addr} {ls : List (Str × Value)} {x : Str} {v : Value} (F : Fr g L h (fun y => List.lookup y ls)) (e : ls = [(x, v)]) : Fr g L h (fun y => if y = x then some v else none) := by
  subst e
  have : (fun y => List.lookup y [(x, v)]) = fun y => if y = x then some v else none := by
    funext y
    simp only [List.lookup]
    by_cases h : y = x
    · subst h; simp
    · rw [if_neg h]; split <;> simp_all
  rw [← this]
  exact F
theorem fr_list {g h : Heap} {L : Addr} {ls ls' : List (Str × Value)} (F : Fr g L h (fun y => List.lookup y ls)) (e : ls = ls') : Fr g L h (fun y => List.lookup y ls') := e ▸ F
theorem with_two {P : Prop} {h₀ h : Heap} {L a b : Addr} {oa ob : Obj} {rest : List (Addr × Obj)} (_N : News h₀ L h ((a, oa) :: (b, ob) :: rest)) (k : ∀ a' b', a' = a → b' = b → P) : P := k _ _ rfl rfl
theorem updF_at {d : Addr} {o : Obj} (o' : Obj) : ∀ {l : List (Addr × Obj)} {g : Obj → List (Addr × Obj)}, UpdF d o l g → Upd d o o' l (g o')
  | _, _, .head h => .head h
  | _, _, .tail h r => .tail h (updF_at o' r)
section
variable {prog : Program} {w : World} {A : Around} {E : Value → Shared → Prop} {s : Shared} {h₀ : Heap} {L D b : Addr} {m : Str → Option Value} {news : List (Addr × Obj)} {g : Obj → List (Addr × Obj)} {xs ys : List Value} {n n2 : Nat}
theorem ext_any {Q : Value → Shared → Prop} (F : Fr h₀ L s.heap m) (N : News h₀ L s.heap news) (hb : (b, listOf ys.toArray n2) ∈ news) (U : UpdF D (listOf xs.toArray n) news g) (hz : xs.length + ys.length ≤ 16777216)
    (h : ∀ h' n', Fr h₀ L h' m → News h₀ L h' (g (listOf (xs ++ ys).toArray n')) → Q .none { s with heap := h' }) : wpAny (model prog w) A (call (.builtin "list.extend") [.ref D, .ref b]) Q E s := by
  have hd : ¬(!xs.toArray.isEmpty && Builtin.List.listTooLong (xs.toArray.size + ys.toArray.size)) = true := by
    have : Builtin.List.listTooLong (xs.toArray.size + ys.toArray.size) = false := by
      unfold Builtin.List.listTooLong
      simp only [List.size_toArray]
      rw [sizeLine_eq]
      apply decide_eq_false
      omega
    rw [this, Bool.and_false]
    decide
  have hz1 : xs.toArray.toList.length ≤ sizeLine := by rw [sizeLine_eq]; simp; omega
  have hz2 : xs.toArray.size + ys.toArray.size ≤ sizeLine + 1 := by rw [sizeLine_eq]; simp; omega
  by_cases hy : ys = []
  · subst hy
    refine kxn_extend F N hb (by simp) (updF_at _ U) hd hz1 hz2 fun h' F' N' => h h' n F' (by rw [List.append_nil]; exact N')
  · refine kl_extend F N hb (l := xs ++ ys) (by simp) (by simpa using hy) (updF_at _ U) hd hz1 hz2 fun h' F' N' => h h' (n + 1) F' N'
end
theorem pick_from (its : List Value) (k : Nat) : (slicePick its.toArray (some (k : Int)) none none).toList = its.drop k := by rw [slicePick_from']
theorem texts_drop : ∀ {vs : List Value} {ws : List Str} (i : Nat), TextsAre vs ws → TextsAre (vs.drop i) (ws.drop i)
  | _, _, 0, h => h
  | [], [], _ + 1, _ => trivial
  | _ :: _, _ :: _, i + 1, ⟨_, b⟩ => texts_drop i b
  | [], _ :: _, _ + 1, h => h.elim
  | _ :: _, [], _ + 1, h => h.elim
theorem texts_app : ∀ {vs us : List Value} {ws xs : List Str}, TextsAre vs ws → TextsAre us xs → TextsAre (vs ++ us) (ws ++ xs)
  | [], _, [], _, _, h => h
  | _ :: _, _, _ :: _, _, ⟨a, b⟩, h => ⟨a, texts_app b h⟩
  | [], _, _ :: _, _, h, _ => h.elim
  | _ :: _, _, [], _, h, _ => h.elim
section
variable {prog : Program} {w : World} {A : Around} {E : Value → Shared → Prop} {s : Shared} {h₀ : Heap} {L l a b D : Addr} {m : Str → Option Value} {news : List (Addr × Obj)} {value slice : PySem.Expr} {its : Array Value} {vs zs ws xs ys : List Value} {ns ms : List Int} {vl vu v x : Value} {lo hi : Option Int} {k : Int} {u : Tok} {n n2 : Nat} {Q : Value → Shared → Prop} {g : Obj → List (Addr × Obj)}
theorem slc (H : ∀ D h', Fr h₀ L h' m → News h₀ L h' ((D, listOf zs.toArray 0) :: news) → (∀ p ∈ news, p.1 < D) → Q (.ref D) { s with heap := h' })
    (F : Fr h₀ L s.heap m := by k_asm) (N : News h₀ L s.heap news := by k_asm) (hl : s.heap.IsList l its := by exact News.isList (by k_asm) (by k_mem)) (pl : IsPart vl lo := by first | exact .none | exact .int _ _) (pu : IsPart vu hi := by first | exact .none | exact .int _ _)
    (e : (slicePick its lo hi none).toList = zs := by with_reducible first | exact pick_upto _ _ | exact pick_upto_of _ (by assumption) | exact pick_from _ _)
    (hs : subscripted slice false (.ref l) (.ref s.heap.objs.size) = operate [.ref s.heap.objs.size, .ref l] (getItem (.ref l) (.ref s.heap.objs.size)) := by with_unfolding_all rfl) (ht : ∀ r, letTemporaryGo value (.ref l) r = pure () := by intro _; with_unfolding_all rfl) (hz : its.size ≤ sizeLine := by (rw [sizeLine_eq, List.size_toArray]; omega)) :
    wpAny (model prog w) A (subscriptTail value slice (.ref l) (.ref s.heap.objs.size)) Q E { s with heap := s.heap.push { cls := .type "slice", data := .fields #[vl, vu, .none] } } := kmk_slice_lit F N hl pl pu e H hs ht hz
theorem addL (H : ∀ D us h', Fr h₀ L h' m → News h₀ L h' ((D, listOf (List.toArray us) 0) :: news) → (∀ p ∈ news, p.1 < D) → IntsAre us (ns ++ ms) → Q (.ref D) { s with heap := h' })
    (F : Fr h₀ L s.heap m := by k_asm) (N : News h₀ L s.heap news := by k_asm) (ha : s.heap.IsList a vs.toArray := by exact News.isList (by k_asm) (by k_mem)) (hb : s.heap.IsList b ws.toArray := by exact News.isList (by k_asm) (by k_mem)) (hi : IntsAre vs ns := by assumption) (hj : IntsAre ws ms := by first | assumption | exact ⟨⟨_, rfl⟩, trivial⟩ | l_ints)
    (hz : ns.length + ms.length ≤ sizeLine := by (simp only [List.length_append, List.length_cons, List.length_nil, List.length_map] at *; omega)) : wpAny (model prog w) A (binaryOp .Add (.ref a) (.ref b)) Q E s := kmk_add_ints F N ha hb hi hj H hz
theorem itemL (h : Q v s) (hl : s.heap.IsList l vs.toArray := by exact News.isList (by k_asm) (by k_mem)) (h0 : 0 ≤ k := by exact Int.natCast_nonneg _) (hhi : k < 2 ^ 63 := by first | with_reducible assumption | omega) (hx : vs[k.toNat]? = some v := by with_reducible assumption)
    (hs : subscripted slice false (.ref l) (.int k u) = operate [.ref l, .int k u] (getItem (.ref l) (.int k u)) := by with_unfolding_all rfl) : wpAny (model prog w) A (subscriptTail value slice (.ref l) (.int k u)) Q E s := item_litK hl h0 hhi hx h hs
theorem outL (hE : ∀ h' tk e, Heap.NewExc s.heap h' e "IndexError" → E (.ref e) { s with heap := h', toks := tk }) (hA : A.handled = none := by exact rfl) (hl : s.heap.IsList l its := by exact News.isList (by k_asm) (by k_mem))
    (hout : k < -(its.size : Int) ∨ (its.size : Int) ≤ k := by exact .inr (by assumption)) (hlo : -(2 ^ 63) ≤ k := by omega) (hhi : k < 2 ^ 63 := by omega)
    (hs : subscripted slice false (.ref l) (.int k u) = operate [.ref l, .int k u] (getItem (.ref l) (.int k u)) := by with_unfolding_all rfl) : wpAny (model prog w) A (subscriptTail value slice (.ref l) (.int k u)) Q E s := item_outK hA hl hout hlo hhi hE hs
theorem extL (h : ∀ h' n', Fr h₀ L h' m → News h₀ L h' (g (listOf (xs ++ ys).toArray n')) → Q .none { s with heap := h' }) (F : Fr h₀ L s.heap m := by k_asm) (N : News h₀ L s.heap news := by k_asm) (hb : (b, listOf ys.toArray n2) ∈ news := by k_mem) (U : UpdF D (listOf xs.toArray n) news g := by k_updF)
    (hz : xs.length + ys.length ≤ 16777216 := by ((try rw [List.length_drop]); omega)) : wpAny (model prog w) A (call (.builtin "list.extend") [.ref D, .ref b]) Q E s := ext_any F N hb U hz h
theorem appL (h : ∀ h', Fr h₀ L h' m → News h₀ L h' (g (listOf (its.push x) (n + 1))) → Q .none { s with heap := h' }) (F : Fr h₀ L s.heap m := by k_asm) (N : News h₀ L s.heap news := by k_asm) (U : UpdF D (listOf its n) news g := by k_updF) (hsz : its.size ≤ sizeLine := by assumption) :
    wpAny (model prog w) A (call (.builtin "list.append") [.ref D, x]) Q E s := append_K F N (updF_at _ U) h hsz
end
theorem joinL {prog : Program} {w : World} {A : Around} {E : Value → Shared → Prop} {s : Shared} {x : Str} {t : Tok} {Q : Value → Shared → Prop} {D : Addr} {items : Array Value} {ys : List Str} (h : ∀ t' k, Q (.str (Txt.join x ys) t') { s with toks := k }) (hl : s.heap.IsList D items := by exact News.isList (by k_asm) (by k_mem))
    (hi : StrsAre items.toList ys := by assumption) (ho : (ys.map (·.length)).sum + ys.length * x.length ≤ 16777216 := by assumption) : wpAny (model prog w) A (call (.builtin "str.join") [.str x t, .ref D]) Q E s := PyProof.Rows.join_list hl hi ho h
theorem splL {prog : Program} {w : World} {A : Around} {E : Value → Shared → Prop} {s : Shared} {h₀ : Heap} {L : Addr} {m : Str → Option Value} {news : List (Addr × Obj)} {x y : Str} {t u : Tok} {Q : Value → Shared → Prop}
    (h : ∀ D l h' k, l.map (·.1) = Txt.split x y → StrsAre (strValues l) (Txt.split x y) → Fr h₀ L h' m → News h₀ L h' ((D, listOf (strValues l).toArray 0) :: news) → (∀ p ∈ news, p.1 < D) → Q (.ref D) { s with heap := h', toks := k }) (F : Fr h₀ L s.heap m := by k_asm) (N : News h₀ L s.heap news := by k_asm)
    (hy : (y.length == 0) = false := by decide) (hz : x.length + 2 ≤ sizeLine := by (rw [sizeLine_eq]; omega)) : wpAny (model prog w) A (call (.builtin "str.split") [.str x t, .str y u]) Q E s :=
  KSpl.split1 F N hy (fun D l h' k e a F' N' l1 => h D l h' k e (by rw [e] at a; exact a) F' N' l1) hz
noncomputable abbrev sioD (P : Params) (κ : Nat → Tok) (b : Str) (p : Int) (tb tp : Tok) : Obj :=
  dictOf [⟨PyData.keyHash P "_StringIO__newline", .str "_StringIO__newline" (κ 0), .str "\n" (κ 1)⟩, ⟨PyData.keyHash P "_StringIO__buf", .str "_StringIO__buf" (κ 2), .str b tb⟩, ⟨PyData.keyHash P "_StringIO__pos", .str "_StringIO__pos" (κ 3), .int p tp⟩] 3
noncomputable def chAt (b : Str) (p : Int) : Str := ⟨#[b.cps.getD p.toNat 0]⟩
theorem read_chr {b : Str} {p : Int} (h0 : 0 ≤ p) (h1 : p < b.length) : Txt.slice (Txt.slice b (some p) (some (p + 1)) ++ Str.ofString " ") none (some (-1)) = chAt b p := by
  have e : Txt.slice b (some p) (some (p + 1)) = ⟨#[b.cps.getD p.toNat 0]⟩ := by simpa using slice_one_closes h0 h1
  rw [e]
  unfold chAt
  generalize b.cps.getD p.toNat 0 = c
  have e2 : (⟨#[c]⟩ : Str) ++ Str.ofString " " = ⟨#[c, 32]⟩ := by
    rw [show Str.ofString " " = ⟨#[32]⟩ by decide +kernel]; rfl
  rw [e2]
  have e3 : PySem.Builtin.Str.strSliceIndices none (some (-1)) 1 2 = [0] := by decide +kernel
  unfold Txt.slice
  show (if ((1 : Int) == 1 && (PySem.Builtin.Str.strSliceIndices none (some (-1)) 1 2).length == 2) = true then _ else (⟨((PySem.Builtin.Str.strSliceIndices none (some (-1)) 1 2).filterMap ((#[c, 32] : Array Nat)[·]?)).toArray⟩ : Str)) = _
  rw [e3, if_neg (by decide)]
  rfl
theorem c_read : Wants PySem.Challenge.rw_in0077_01 Mine.K → ∀ (prog w p loose mean mg mb rest) (κ : Nat → Tok) (x d : Addr) (b : Str) (pos : Int) (c : Str) (tb tp t1 : Tok), chAt b pos = c → x ≠ d → (∀ q ∈ rest, q.1 ≠ d) → 0 ≤ pos → pos + 1 < b.length → b.length < 2 ^ 20 →
  Claim prog w (Mine.K w.params) p loose mean mg mb ((x, instObj 611 d) :: (d, sioD w.params κ b pos tb tp) :: rest) 4 40 (call (.ref 557) [.ref x, .int 1 t1])
    (fun v news' => ∃ t t', v = .str c t ∧ news' = (x, instObj 611 d) :: (d, sioD w.params κ b (pos + 1) tb t') :: rest) := by
  k_fill
  intro _ prog w p loose mean mg mb rest κ x d b pos c tb tp t1 hc hx hr h0 h1 hb dp un gd cn cs a ccd cl outer A₀ base h₀ L m s Q E B F X N T hk hd hu hret
  dsimp only [sioD] at N
  walk_at "ENTER"
  k_steps
  rw [read_chr h0 (by omega), hc]
  exact hret _ _ _ _ ⟨_, _, rfl, rfl⟩ (by k_asm) (by k_asm)
theorem c_read_end : Wants PySem.Challenge.rw_in0077_01 Mine.K → ∀ (prog w p loose mean mg mb rest) (κ : Nat → Tok) (x d : Addr) (b : Str) (pos : Int) (tb tp t1 : Tok), pos = b.length → b.length < 2 ^ 20 →
  Claim prog w (Mine.K w.params) p loose mean mg mb ((x, instObj 611 d) :: (d, sioD w.params κ b pos tb tp) :: rest) 4 40 (call (.ref 557) [.ref x, .int 1 t1])
    (fun v news' => ∃ t, v = .str (Str.ofString "") t ∧ news' = (x, instObj 611 d) :: (d, sioD w.params κ b pos tb tp) :: rest) := by
  k_fill
  intro _ prog w p loose mean mg mb rest κ x d b pos tb tp t1 h1 hb dp un gd cn cs a ccd cl outer A₀ base h₀ L m s Q E B F X N T hk hd hu hret
  dsimp only [sioD] at N
  walk_at "ENTER"
  k_steps
  exact hret _ _ _ _ ⟨_, rfl, rfl⟩ (by k_asm) (by k_asm)
section
noncomputable def find4 (x y : Str) (i j : Int) : Int := match PySem.Builtin.Str.occurrences x y (fromIndex x.length i) (min (fromIndex x.length j) x.length) 1 with | k :: _ => (k : Int) | [] => -1
theorem gives_find4 (x y : Str) (i j : Int) (t u v w : Tok) : Gives (Builtin.«str.find» ⟨[.str x t, .str y u, .int i v, .int j w], []⟩) (.int (find4 x y i j)) := by
  show Gives (match PySem.Builtin.Str.occurrences x y (fromIndex x.length i) (min (fromIndex x.length j) x.length) 1 with | k :: _ => retInt k | [] => (do rule "str.find.not-found"; retInt (-1))) _
  unfold find4
  cases PySem.Builtin.Str.occurrences x y (fromIndex x.length i) (min (fromIndex x.length j) x.length) 1 with
  | nil => exact .rule (.of_eq rfl)
  | cons k _ => exact .of_eq rfl
theorem call_find4 {prog : Program} {w : World} {A : Around} {E : Value → Shared → Prop} {s : Shared} {x y : Str} {t u v z : Tok} {i j : Int} {Q : Value → Shared → Prop}
    (hq : Q (.int (find4 x y i j) s.toks) { s with toks := s.toks + 1 }) : wpAny (model prog w) A (call (.builtin "str.find") [.str x t, .str y u, .int i v, .int j z]) Q E s :=
  call_gives F.slot_str_find (typeIs_str _ _ _) F.entry_str_find (F.args_str_find_4 _ _ _ _) (gives_find4 x y i j t u v z) hq
local macro_rules | `(tactic| walk_at "call builtin:str.find") => `(tactic| refine call_find4 ?_)
theorem c_readline : Wants PySem.Challenge.rw_in0077_01 Mine.K → ∀ (prog w p loose mean mg mb rest) (κ : Nat → Tok) (x d : Addr) (b : Str) (pos : Int) (tb tp : Tok), x ≠ d → (∀ q ∈ rest, q.1 ≠ d) → 0 ≤ pos → pos < b.length → b.length < 2 ^ 20 → find4 b (Str.ofString "\n") pos b.length = -1 →
  Claim prog w (Mine.K w.params) p loose mean mg mb ((x, instObj 611 d) :: (d, sioD w.params κ b pos tb tp) :: rest) 5 60 (call (.ref 565) [.ref x])
    (fun v news' => ∃ (t' : Tok), news' = (x, instObj 611 d) :: (d, sioD w.params κ b b.length tb t') :: rest) := by
  k_fill
  intro _ prog w p loose mean mg mb rest κ x d b pos tb tp hx hr h0 h1 hb hf dp un gd cn cs a ccd cl outer A₀ base h₀ L m s Q E B F X N T hk hd hu hret
  dsimp only [sioD] at N
  walk_at "ENTER"
  k_steps
  all_goals (try exact hret _ _ _ _ ⟨_, rfl⟩ (by k_asm) (by k_asm))
  all_goals w_report
end
noncomputable def wordC : Str := Str.ofString "abcdfeghijklmnopqrstuvwxyzABCDEFGHIJKLMNOPQRSTUVWXYZ0123456789_" ++ Str.ofString "ßàáâãäåæçèéêëìíîïðñòóôõöøùúûüýþÿÀÁÂÃÄÅÆÇÈÉÊËÌÍÎÏÐÑÒÓÔÕÖØÙÚÛÜÝÞ"
noncomputable abbrev lexD (P : Params) (κ τ : Nat → Tok) (sx pb fs : Addr) (st : Value) (ln : Int) (tl : Tok) (tk : Str) (tt : Tok) : Obj :=
  dictOf [⟨PyData.keyHash P "instream", .str "instream" (κ 0), .ref sx⟩, ⟨PyData.keyHash P "infile", .str "infile" (κ 1), .none⟩, ⟨PyData.keyHash P "posix", .str "posix" (κ 2), .bool true⟩,
    ⟨PyData.keyHash P "eof", .str "eof" (κ 3), .none⟩, ⟨PyData.keyHash P "commenters", .str "commenters" (κ 4), .str "#" (τ 4)⟩, ⟨PyData.keyHash P "wordchars", .str "wordchars" (κ 5), .str wordC (τ 5)⟩,
    ⟨PyData.keyHash P "whitespace", .str "whitespace" (κ 6), .str " \t\r\n" (τ 6)⟩, ⟨PyData.keyHash P "whitespace_split", .str "whitespace_split" (κ 7), .bool true⟩, ⟨PyData.keyHash P "quotes", .str "quotes" (κ 8), .str "'\"" (τ 8)⟩,
    ⟨PyData.keyHash P "escape", .str "escape" (κ 9), .str "\\" (τ 9)⟩, ⟨PyData.keyHash P "escapedquotes", .str "escapedquotes" (κ 10), .str "\"" (τ 10)⟩, ⟨PyData.keyHash P "state", .str "state" (κ 11), st⟩,
    ⟨PyData.keyHash P "pushback", .str "pushback" (κ 12), .ref pb⟩, ⟨PyData.keyHash P "lineno", .str "lineno" (κ 13), .int ln tl⟩, ⟨PyData.keyHash P "debug", .str "debug" (κ 14), .int 0 (τ 14)⟩, ⟨PyData.keyHash P "token", .str "token" (κ 15), .str tk tt⟩,
    ⟨PyData.keyHash P "filestack", .str "filestack" (κ 16), .ref fs⟩, ⟨PyData.keyHash P "source", .str "source" (κ 17), .none⟩, ⟨PyData.keyHash P "_punctuation_chars", .str "_punctuation_chars" (κ 18), .str "" (τ 18)⟩] 19
noncomputable def rtM (x : Addr) (nc : Option Value) (es : Value) (q : Bool) : Str → Option Value := fun y => if y = Str.ofString "nextchar" then nc else if y = Str.ofString "escapedstate" then some es else if y = Str.ofString "quoted" then some (.bool q) else if y = Str.ofString "self" then some (.ref x) else none
theorem news_rot {h₀ h : Heap} {L : Addr} {a b c d : Addr × Obj} {r : List (Addr × Obj)} (N : News h₀ L h (a :: b :: c :: d :: r)) : News h₀ L h (c :: d :: a :: b :: r) := fun p hp => by
  refine N p ?_
  revert p hp; walk_at "SUBM"
theorem rtM_n {x : Addr} {nc : Option Value} {es : Value} {q : Bool} {v : Value} : (fun y => if y = Str.ofString "nextchar" then some v else rtM x nc es q y) = rtM x (some v) es q := by
  funext y
  unfold rtM
  by_cases h : y = Str.ofString "nextchar" <;> simp [h]
theorem rtM_q {x : Addr} {nc : Option Value} {es : Value} {q v : Bool} : (fun y => if y = Str.ofString "quoted" then some (Value.bool v) else rtM x nc es q y) = rtM x nc es v := by
  funext y
  unfold rtM
  by_cases h : y = Str.ofString "quoted"
  · subst h
    rw [if_pos rfl, if_neg (by decide +kernel), if_neg (by decide +kernel), if_pos rfl]
  · simp only [h, if_false]
theorem self_lookup {x : Addr} (y : Str) : List.lookup y [(Str.ofString "self", Value.ref x)] = if y = Str.ofString "self" then some (Value.ref x) else none := by
  simp only [List.lookup_cons, List.lookup_nil]
  by_cases h : y = Str.ofString "self"
  · rw [if_pos h, show (y == Str.ofString "self") = true by simp [h]]
  · rw [if_neg h, show (y == Str.ofString "self") = false by simp [h]]
theorem rtM_0 {x : Addr} {es : Value} {q : Bool} : (fun y => if y = Str.ofString "escapedstate" then some es else if y = Str.ofString "quoted" then some (Value.bool q) else List.lookup y [(Str.ofString "self", Value.ref x)]) = rtM x none es q := by
  funext y
  rw [self_lookup]
  unfold rtM
  by_cases h0 : y = Str.ofString "nextchar"
  · subst h0
    rw [if_neg (by decide +kernel), if_neg (by decide +kernel), if_neg (by decide +kernel), if_pos rfl]
  · rw [if_neg h0]
noncomputable def ForRt (K : Frag) (P : PySem.Expr → Stmt → Stmt → Stmt → Stmt → List Stmt → Str → Scope → Value → Prop) : Prop :=
  ∀ (oc : Value) (od : Option Addr) (osl : Array (Option Value)) (name qual : Str) (params : Arguments) (scope : Scope) (dV kV doc pm : Value) (an : Option Addr) (cdv ct : Value) (st1 st2 st4 st5 st6 st7 st8 : Stmt) (test : PySem.Expr) (b1 b2 b3 b4 : Stmt) (orelse : List Stmt) (tpos : Pos),
    K.lookup 714 = some ⟨oc, od, .func (fnOf name qual params [st1, st2, .While test [b1, b2, b3, b4] orelse tpos, st4, st5, st6, st7, st8] scope dV kV doc pm an cdv ct), osl⟩ → P test b1 b2 b3 b4 orelse qual scope cdv
section
variable {K : Frag} {oc' : Value} {od' : Option Addr} {osl' : Array (Option Value)} {name' qual' : Str} {params' : Arguments} {scope' : Scope} {dV' kV' doc' pm' cdv' ct' : Value} {an' : Option Addr} {t1 t2 t4 t5 t6 t7 t8 c1 c2 c3 c4 : Stmt} {test' : PySem.Expr} {orelse' : List Stmt} {tpos' : Pos} {P : PySem.Expr → Stmt → Stmt → Stmt → Stmt → List Stmt → Str → Scope → Value → Prop}
  (h' : K.lookup 714 = some ⟨oc', od', .func (fnOf name' qual' params' [t1, t2, .While test' [c1, c2, c3, c4] orelse' tpos', t4, t5, t6, t7, t8] scope' dV' kV' doc' pm' an' cdv' ct'), osl'⟩)
include h'
theorem ForRt.mk4 (k : ∀ b4, RtMark b4 → P test' c1 c2 c3 b4 orelse' qual' scope' cdv') : ForRt K P := by
  intro _ _ _ _ _ _ _ _ _ _ _ _ _ _ _ _ _ _ _ _ _ _ _ _ _ b4 _ _ h
  refine fn_same h h' fun hb hq hs hc => ?_
  subst hq hs hc
  simp only [List.cons.injEq, Stmt.While.injEq, and_true] at hb
  obtain ⟨-, -, ⟨rfl, ⟨rfl, rfl, rfl, rfl⟩, rfl, -⟩, -⟩ := hb
  exact k _ ⟨⟩
theorem ForRt.mk (k : P test' c1 c2 c3 c4 orelse' qual' scope' cdv') : ForRt K P := by
  intro _ _ _ _ _ _ _ _ _ _ _ _ _ _ _ _ _ _ _ _ _ _ _ _ _ b4 _ _ h
  refine fn_same h h' fun hb hq hs hc => ?_
  subst hq hs hc
  simp only [List.cons.injEq, Stmt.While.injEq, and_true] at hb
  obtain ⟨-, -, ⟨rfl, ⟨rfl, rfl, rfl, rfl⟩, rfl, -⟩, -⟩ := hb
  exact k
end
theorem use_c_read {prog : Program} {w : World} {p : Program} {loose : List Str} {mean : ExcName → Option Value} {mg : Str → Option Value} {mb : Str → Option Value} {rest : List (Addr × Obj)} {κ : Nat → Tok} {x d : Addr} {b : Str} {pos : Int} {c : Str} {tb tp t1 : Tok} {y1 y2 : Addr × Obj} {A : Around} {cn : Str} {cs : Scope} {a : Addr} {ccd : Value} {cl : List (Str × Addr)} {outer : List Env} {A₀ : Around} {base h₀ : Heap} {L : Addr} {m : Str → Option Value} {hp : Heap} {gs : Array GenState} {dr : Drawn} {tk9 : Nat} {os : OsState} {Q E : Value → Shared → Prop}
    (N : News h₀ L hp (y1 :: y2 :: (x, instObj 611 d) :: (d, sioD w.params κ b pos tb tp) :: rest)) (ret : ∀ (t : Tok) (t' : Tok) (h' : Heap) (tk' : Nat), Fr h₀ L h' m → News h₀ L h' (y1 :: y2 :: (x, instObj 611 d) :: (d, sioD w.params κ b (pos + 1) tb t') :: rest) → Q (.str c t) ⟨h', gs, dr, tk', os⟩)
    (g0 : chAt b pos = c := by assumption) (g1 : x ≠ d := by assumption) (g2 : (∀ q ∈ y1 :: y2 :: rest, q.1 ≠ d) := by k_all) (g3 : 0 ≤ pos := by assumption) (g4 : pos + 1 < b.length := by assumption) (g5 : b.length < 2 ^ 20 := by assumption)
    (B : Below A₀ base outer h₀ := by k_asm) (hA : A.frames = some (envX cn cs L a ccd cl :: outer) := by exact rfl) (hh : A.handled = none := by exact rfl) (F : Fr h₀ L hp m := by k_asm) (X : (Mine.K w.params).In h₀ := by k_asm) (T : Top p loose mean mg mb h₀ := by k_asm) (hk : cs.kind = .function := by first | exact rfl | assumption) (hd : A.depth + 4 < recursionLimit := by ktr_room) (hu : A.units + 40 < cLine := by ktr_units) :
    wpAny (model prog w) A (call (.ref 557) [.ref x, .int 1 t1]) Q E ⟨hp, gs, dr, tk9, os⟩ := by
  refine Claim.useA (c_read trivial _ _ _ _ _ _ _ _ _ _ _ _ _ _ _ _ _ g0 g1 g2 g3 g4 g5) hA hh B F X (news_rot N) T hk hd hu ?_
  rintro v n h' tk' ⟨t, t', rfl, rfl⟩ F' N'
  exact ret t t' h' tk' F' (news_rot N')
theorem use_c_read_end {prog : Program} {w : World} {p : Program} {loose : List Str} {mean : ExcName → Option Value} {mg : Str → Option Value} {mb : Str → Option Value} {rest : List (Addr × Obj)} {κ : Nat → Tok} {x d : Addr} {b : Str} {pos : Int} {tb tp t1 : Tok} {y1 y2 : Addr × Obj} {A : Around} {cn : Str} {cs : Scope} {a : Addr} {ccd : Value} {cl : List (Str × Addr)} {outer : List Env} {A₀ : Around} {base h₀ : Heap} {L : Addr} {m : Str → Option Value} {hp : Heap} {gs : Array GenState} {dr : Drawn} {tk9 : Nat} {os : OsState} {Q E : Value → Shared → Prop}
    (N : News h₀ L hp (y1 :: y2 :: (x, instObj 611 d) :: (d, sioD w.params κ b pos tb tp) :: rest)) (ret : ∀ (t : Tok) (h' : Heap) (tk' : Nat), Fr h₀ L h' m → News h₀ L h' (y1 :: y2 :: (x, instObj 611 d) :: (d, sioD w.params κ b pos tb tp) :: rest) → Q (.str (Str.ofString "") t) ⟨h', gs, dr, tk', os⟩)
    (g0 : pos = b.length := by assumption) (g1 : b.length < 2 ^ 20 := by assumption)
    (B : Below A₀ base outer h₀ := by k_asm) (hA : A.frames = some (envX cn cs L a ccd cl :: outer) := by exact rfl) (hh : A.handled = none := by exact rfl) (F : Fr h₀ L hp m := by k_asm) (X : (Mine.K w.params).In h₀ := by k_asm) (T : Top p loose mean mg mb h₀ := by k_asm) (hk : cs.kind = .function := by first | exact rfl | assumption) (hd : A.depth + 4 < recursionLimit := by ktr_room) (hu : A.units + 40 < cLine := by ktr_units) :
    wpAny (model prog w) A (call (.ref 557) [.ref x, .int 1 t1]) Q E ⟨hp, gs, dr, tk9, os⟩ := by
  refine Claim.useA (c_read_end trivial _ _ _ _ _ _ _ _ _ _ _ _ _ _ _ _ g0 g1) hA hh B F X (news_rot N) T hk hd hu ?_
  rintro v n h' tk' ⟨t, rfl, rfl⟩ F' N'
  exact ret t h' tk' F' (news_rot N')
theorem use_c_readline {prog : Program} {w : World} {p : Program} {loose : List Str} {mean : ExcName → Option Value} {mg : Str → Option Value} {mb : Str → Option Value} {rest : List (Addr × Obj)} {κ : Nat → Tok} {x d : Addr} {b : Str} {pos : Int} {tb tp : Tok} {y1 y2 : Addr × Obj} {A : Around} {cn : Str} {cs : Scope} {a : Addr} {ccd : Value} {cl : List (Str × Addr)} {outer : List Env} {A₀ : Around} {base h₀ : Heap} {L : Addr} {m : Str → Option Value} {hp : Heap} {gs : Array GenState} {dr : Drawn} {tk9 : Nat} {os : OsState} {Q E : Value → Shared → Prop}
    (N : News h₀ L hp (y1 :: y2 :: (x, instObj 611 d) :: (d, sioD w.params κ b pos tb tp) :: rest)) (ret : ∀ (v : Value) (t' : Tok) (h' : Heap) (tk' : Nat), Fr h₀ L h' m → News h₀ L h' (y1 :: y2 :: (x, instObj 611 d) :: (d, sioD w.params κ b b.length tb t') :: rest) → Q (v) ⟨h', gs, dr, tk', os⟩)
    (g0 : x ≠ d := by assumption) (g1 : (∀ q ∈ y1 :: y2 :: rest, q.1 ≠ d) := by k_all) (g2 : 0 ≤ pos := by assumption) (g3 : pos < b.length := by assumption) (g4 : b.length < 2 ^ 20 := by assumption) (g5 : find4 b (Str.ofString "\n") pos b.length = -1 := by assumption)
    (B : Below A₀ base outer h₀ := by k_asm) (hA : A.frames = some (envX cn cs L a ccd cl :: outer) := by exact rfl) (hh : A.handled = none := by exact rfl) (F : Fr h₀ L hp m := by k_asm) (X : (Mine.K w.params).In h₀ := by k_asm) (T : Top p loose mean mg mb h₀ := by k_asm) (hk : cs.kind = .function := by first | exact rfl | assumption) (hd : A.depth + 5 < recursionLimit := by ktr_room) (hu : A.units + 60 < cLine := by ktr_units) :
    wpAny (model prog w) A (call (.ref 565) [.ref x]) Q E ⟨hp, gs, dr, tk9, os⟩ := by
  refine Claim.useA (c_readline trivial _ _ _ _ _ _ _ _ _ _ _ _ _ _ _ g0 g1 g2 g3 g4 g5) hA hh B F X (news_rot N) T hk hd hu ?_
  rintro v n h' tk' ⟨t', rfl⟩ F' N'
  exact ret _ t' h' tk' F' (news_rot N')
section
local macro_rules | `(tactic| walk_at "call ref") => `(tactic| ktr_call 557 use_c_read)
local macro_rules | `(tactic| walk_at "RTM") => `(tactic| (first | exact rfl | exact rtM_q | exact rtM_n))
local macro_rules | `(tactic| walk_at "execs cons") => `(tactic| (with_reducible refine stop_rt ?hm ?_; (case hm => with_reducible assumption)))
local macro_rules | `(tactic| walk_at "WhlRest") => `(tactic| refine stop_here ?_)
theorem rt_pre : Wants PySem.Challenge.rw_in0077_01 Mine.K → ∀ (prog : Program) (w : World), ForRt (Mine.K w.params) fun test b1 b2 b3 b4 orelse qual scope cdv =>
  ∀ (p : Program) (loose : List Str) (mean : ExcName → Option Value) (mg mb : Str → Option Value) (dp un : Nat) (gd : Option (List Code)) (cn : Str) (cs : Scope) (L0 a0 : Addr) (ccd : Value) (cl : List (Str × Addr)) (outer : List Env) (base g : Heap) (L : Addr) (s : Shared) (E : Value → Shared → Prop) (Q : Flow → Shared → Prop) (rest : List (Addr × Obj)) (κ τ κs : Nat → Tok) (x d sx sd pb fs : Addr) (b tk : Str) (pos ln : Int) (tb tp tl tt tst : Tok) (es : Value) (q : Bool) (stv : Value) (nc : Option Value) (c : Str),
  Below (ktrTop dp un gd cn cs L0 a0 ccd cl outer) base (envX cn cs L0 a0 ccd cl :: outer) g → Fr g L s.heap (rtM x nc es q) → (Mine.K w.params).In g → News g L s.heap ((x, instObj 746 d) :: (d, lexD w.params κ τ sx pb fs stv ln tl tk tt) :: (sx, instObj 611 sd) :: (sd, sioD w.params κs b pos tb tp) :: rest) → Top p loose mean mg mb g → cs.kind = .function → dp + 6 < recursionLimit → un + 80 < cLine → (∀ q ∈ rest, q.1 ≠ d) → (∀ q ∈ rest, q.1 ≠ sd) → x ≠ d → x ≠ sd → sx ≠ d → sx ≠ sd → d ≠ sd → sd ≠ d →
  chAt b pos = c → 0 ≤ pos → pos + 1 < b.length → b.length < 2 ^ 20 → (c == Str.ofString "\n") = false → PassesOwn (model prog w) ((ktrTop dp un gd cn cs L0 a0 ccd cl outer).deeper (envOf qual scope L 714 cdv)) (envOf qual scope L 714 cdv) E →
  (∀ h' tk' t' tp' , Fr g L h' (rtM x (some (.str c t')) es q) → News g L h' ((x, instObj 746 d) :: (d, lexD w.params κ τ sx pb fs stv ln tl tk tt) :: (sx, instObj 611 sd) :: (sd, sioD w.params κs b (pos + 1) tb tp') :: rest) →
    wpAny (model prog w) ((ktrTop dp un gd cn cs L0 a0 ccd cl outer).deeper (envOf qual scope L 714 cdv)) (execs [b4] (envOf qual scope L 714 cdv)) (WhlPost prog w ((ktrTop dp un gd cn cs L0 a0 ccd cl outer).deeper (envOf qual scope L 714 cdv)) E (envOf qual scope L 714 cdv) test [b1, b2, b3, b4] orelse Q 0) E { s with heap := h', toks := tk' }) →
  WhlRest prog w ((ktrTop dp un gd cn cs L0 a0 ccd cl outer).deeper (envOf qual scope L 714 cdv)) E (envOf qual scope L 714 cdv) test [b1, b2, b3, b4] orelse Q 1 s := by
  k_fill
  intro _ prog w
  refine' ForRt.mk4 ?h ?_
  case h => walk_at "Mine.KN"
  intro b4 hM
  intro p loose mean mg mb dp un gd cn cs L0 a0 ccd cl outer base g L s E Q rest κ τ κs x d sx sd pb fs b tk pos ln tb tp tl tt tst es q stv nc c B F X N T hk hd hu hr1 hr2 n1 n2 n3 n4 n5 n6 hc h0 h1 hb hn1 hE again
  dsimp only [lexD] at N
  refine fold1 N ?_
  clear N
  intro es9 N
  refine whl_turn hE ?_
  k_steps
  all_goals (refine' again _ _ _ _ ?f1 ?n1; (case f1 => (refine' fr_eq (by with_reducible assumption) ?_; walk_at "RTM")); (case n1 => first | with_reducible assumption | exact news_tl (by with_reducible assumption) | exact news_tl (news_tl (by with_reducible assumption))))
theorem rt_pre_nl : Wants PySem.Challenge.rw_in0077_01 Mine.K → ∀ (prog : Program) (w : World), ForRt (Mine.K w.params) fun test b1 b2 b3 b4 orelse qual scope cdv =>
  ∀ (p : Program) (loose : List Str) (mean : ExcName → Option Value) (mg mb : Str → Option Value) (dp un : Nat) (gd : Option (List Code)) (cn : Str) (cs : Scope) (L0 a0 : Addr) (ccd : Value) (cl : List (Str × Addr)) (outer : List Env) (base g : Heap) (L : Addr) (s : Shared) (E : Value → Shared → Prop) (Q : Flow → Shared → Prop) (rest : List (Addr × Obj)) (κ τ κs : Nat → Tok) (x d sx sd pb fs : Addr) (b tk : Str) (pos ln : Int) (tb tp tl tt tst : Tok) (es : Value) (q : Bool) (stv : Value) (nc : Option Value),
  Below (ktrTop dp un gd cn cs L0 a0 ccd cl outer) base (envX cn cs L0 a0 ccd cl :: outer) g → Fr g L s.heap (rtM x nc es q) → (Mine.K w.params).In g → News g L s.heap ((x, instObj 746 d) :: (d, lexD w.params κ τ sx pb fs stv ln tl tk tt) :: (sx, instObj 611 sd) :: (sd, sioD w.params κs b pos tb tp) :: rest) → Top p loose mean mg mb g → cs.kind = .function → dp + 6 < recursionLimit → un + 80 < cLine → (∀ q ∈ rest, q.1 ≠ d) → (∀ q ∈ rest, q.1 ≠ sd) → x ≠ d → x ≠ sd → sx ≠ d → sx ≠ sd → d ≠ sd → sd ≠ d →
  chAt b pos = (Str.ofString "\n") → 0 ≤ pos → pos + 1 < b.length → b.length < 2 ^ 20 → PassesOwn (model prog w) ((ktrTop dp un gd cn cs L0 a0 ccd cl outer).deeper (envOf qual scope L 714 cdv)) (envOf qual scope L 714 cdv) E →
  (∀ h' tk' t' tp' tl', Fr g L h' (rtM x (some (.str (Str.ofString "\n") t')) es q) → News g L h' ((x, instObj 746 d) :: (d, lexD w.params κ τ sx pb fs stv (ln + 1) tl' tk tt) :: (sx, instObj 611 sd) :: (sd, sioD w.params κs b (pos + 1) tb tp') :: rest) →
    wpAny (model prog w) ((ktrTop dp un gd cn cs L0 a0 ccd cl outer).deeper (envOf qual scope L 714 cdv)) (execs [b4] (envOf qual scope L 714 cdv)) (WhlPost prog w ((ktrTop dp un gd cn cs L0 a0 ccd cl outer).deeper (envOf qual scope L 714 cdv)) E (envOf qual scope L 714 cdv) test [b1, b2, b3, b4] orelse Q 0) E { s with heap := h', toks := tk' }) →
  WhlRest prog w ((ktrTop dp un gd cn cs L0 a0 ccd cl outer).deeper (envOf qual scope L 714 cdv)) E (envOf qual scope L 714 cdv) test [b1, b2, b3, b4] orelse Q 1 s := by
  k_fill
  intro _ prog w
  refine' ForRt.mk4 ?h ?_
  case h => walk_at "Mine.KN"
  intro b4 hM
  intro p loose mean mg mb dp un gd cn cs L0 a0 ccd cl outer base g L s E Q rest κ τ κs x d sx sd pb fs b tk pos ln tb tp tl tt tst es q stv nc B F X N T hk hd hu hr1 hr2 n1 n2 n3 n4 n5 n6 hc h0 h1 hb hE again
  dsimp only [lexD] at N
  refine fold1 N ?_
  clear N
  intro es9 N
  refine whl_turn hE ?_
  k_steps
  all_goals (refine' again _ _ _ _ _ ?f1 ?n1; (case f1 => (refine' fr_eq (by with_reducible assumption) ?_; walk_at "RTM")); (case n1 => first | with_reducible assumption | exact news_tl (by with_reducible assumption) | exact news_tl (news_tl (by with_reducible assumption))))
theorem rt_q_other : Wants PySem.Challenge.rw_in0077_01 Mine.K → ∀ (prog : Program) (w : World), ForRt (Mine.K w.params) fun test b1 b2 b3 b4 orelse qual scope cdv =>
  ∀ (p : Program) (loose : List Str) (mean : ExcName → Option Value) (mg mb : Str → Option Value) (dp un : Nat) (gd : Option (List Code)) (cn : Str) (cs : Scope) (L0 a0 : Addr) (ccd : Value) (cl : List (Str × Addr)) (outer : List Env) (base g : Heap) (L : Addr) (s : Shared) (E : Value → Shared → Prop) (Q : Flow → Shared → Prop) (rest : List (Addr × Obj)) (κ τ κs : Nat → Tok) (x d sx sd pb fs : Addr) (b tk : Str) (pos ln : Int) (tb tp tl tt tst : Tok) (es : Value) (q : Bool) (tc : Tok) (c : Str),
  Below (ktrTop dp un gd cn cs L0 a0 ccd cl outer) base (envX cn cs L0 a0 ccd cl :: outer) g → Fr g L s.heap (rtM x (some (.str c tc)) es q) → (Mine.K w.params).In g → News g L s.heap ((x, instObj 746 d) :: (d, lexD w.params κ τ sx pb fs (.str (Str.ofString "'") tst) ln tl tk tt) :: (sx, instObj 611 sd) :: (sd, sioD w.params κs b pos tb tp) :: rest) → Top p loose mean mg mb g → cs.kind = .function → dp + 6 < recursionLimit → un + 80 < cLine → (∀ q ∈ rest, q.1 ≠ d) → (∀ q ∈ rest, q.1 ≠ sd) → x ≠ d → x ≠ sd → sx ≠ d → sx ≠ sd → d ≠ sd → sd ≠ d →
  (c == Str.ofString "'") = false → (Builtin.Str.occurrences (Str.ofString "\\") c 0 (Str.ofString "\\").length 1).isEmpty = true → (0 < c.length ∧ c.length < 2 ^ 62) → tk.length + c.length ≤ sizeLine → PassesOwn (model prog w) ((ktrTop dp un gd cn cs L0 a0 ccd cl outer).deeper (envOf qual scope L 714 cdv)) (envOf qual scope L 714 cdv) E →
  (∀ (h' : Heap) (tk' : Nat) (tt' tst' : Tok), Fr g L h' (rtM x (some (.str c tc)) es true) → News g L h' ((x, instObj 746 d) :: (d, lexD w.params κ τ sx pb fs (.str (Str.ofString "'") tst') ln tl (tk ++ c) tt') :: (sx, instObj 611 sd) :: (sd, sioD w.params κs b pos tb tp) :: rest) → WhlRest prog w ((ktrTop dp un gd cn cs L0 a0 ccd cl outer).deeper (envOf qual scope L 714 cdv)) E (envOf qual scope L 714 cdv) test [b1, b2, b3, b4] orelse Q 0 { s with heap := h', toks := tk' }) →
  wpAny (model prog w) ((ktrTop dp un gd cn cs L0 a0 ccd cl outer).deeper (envOf qual scope L 714 cdv)) (execs [b4] (envOf qual scope L 714 cdv)) (WhlPost prog w ((ktrTop dp un gd cn cs L0 a0 ccd cl outer).deeper (envOf qual scope L 714 cdv)) E (envOf qual scope L 714 cdv) test [b1, b2, b3, b4] orelse Q 0) E s := by
  k_fill
  intro _ prog w
  refine' ForRt.mk ?h ?_
  case h => walk_at "Mine.KN"
  intro p loose mean mg mb dp un gd cn cs L0 a0 ccd cl outer base g L s E Q rest κ τ κs x d sx sd pb fs b tk pos ln tb tp tl tt tst es q tc c B F X N T hk hd hu hr1 hr2 n1 n2 n3 n4 n5 n6 hn2 hn3 hn4 hn5 hE again
  dsimp only [lexD] at N
  refine fold1 N ?_
  clear N
  intro es9 N
  k_steps
  all_goals (refine' again _ _ _ _ ?f1 ?n1; (case f1 => (refine' fr_eq (by with_reducible assumption) ?_; walk_at "RTM")); (case n1 => first | with_reducible assumption | exact news_tl (by with_reducible assumption) | exact news_tl (news_tl (by with_reducible assumption))))
theorem rt_q_back : Wants PySem.Challenge.rw_in0077_01 Mine.K → ∀ (prog : Program) (w : World), ForRt (Mine.K w.params) fun test b1 b2 b3 b4 orelse qual scope cdv =>
  ∀ (p : Program) (loose : List Str) (mean : ExcName → Option Value) (mg mb : Str → Option Value) (dp un : Nat) (gd : Option (List Code)) (cn : Str) (cs : Scope) (L0 a0 : Addr) (ccd : Value) (cl : List (Str × Addr)) (outer : List Env) (base g : Heap) (L : Addr) (s : Shared) (E : Value → Shared → Prop) (Q : Flow → Shared → Prop) (rest : List (Addr × Obj)) (κ τ κs : Nat → Tok) (x d sx sd pb fs : Addr) (b tk : Str) (pos ln : Int) (tb tp tl tt tst : Tok) (es : Value) (q : Bool) (tc : Tok),
  Below (ktrTop dp un gd cn cs L0 a0 ccd cl outer) base (envX cn cs L0 a0 ccd cl :: outer) g → Fr g L s.heap (rtM x (some (.str (Str.ofString "\\") tc)) es q) → (Mine.K w.params).In g → News g L s.heap ((x, instObj 746 d) :: (d, lexD w.params κ τ sx pb fs (.str (Str.ofString "'") tst) ln tl tk tt) :: (sx, instObj 611 sd) :: (sd, sioD w.params κs b pos tb tp) :: rest) → Top p loose mean mg mb g → cs.kind = .function → dp + 6 < recursionLimit → un + 80 < cLine → (∀ q ∈ rest, q.1 ≠ d) → (∀ q ∈ rest, q.1 ≠ sd) → x ≠ d → x ≠ sd → sx ≠ d → sx ≠ sd → d ≠ sd → sd ≠ d →
  tk.length + 1 ≤ sizeLine → PassesOwn (model prog w) ((ktrTop dp un gd cn cs L0 a0 ccd cl outer).deeper (envOf qual scope L 714 cdv)) (envOf qual scope L 714 cdv) E →
  (∀ (h' : Heap) (tk' : Nat) (tt' tst' : Tok), Fr g L h' (rtM x (some (.str (Str.ofString "\\") tc)) es true) → News g L h' ((x, instObj 746 d) :: (d, lexD w.params κ τ sx pb fs (.str (Str.ofString "'") tst') ln tl (tk ++ Str.ofString "\\") tt') :: (sx, instObj 611 sd) :: (sd, sioD w.params κs b pos tb tp) :: rest) → WhlRest prog w ((ktrTop dp un gd cn cs L0 a0 ccd cl outer).deeper (envOf qual scope L 714 cdv)) E (envOf qual scope L 714 cdv) test [b1, b2, b3, b4] orelse Q 0 { s with heap := h', toks := tk' }) →
  wpAny (model prog w) ((ktrTop dp un gd cn cs L0 a0 ccd cl outer).deeper (envOf qual scope L 714 cdv)) (execs [b4] (envOf qual scope L 714 cdv)) (WhlPost prog w ((ktrTop dp un gd cn cs L0 a0 ccd cl outer).deeper (envOf qual scope L 714 cdv)) E (envOf qual scope L 714 cdv) test [b1, b2, b3, b4] orelse Q 0) E s := by
  k_fill
  intro _ prog w
  refine' ForRt.mk ?h ?_
  case h => walk_at "Mine.KN"
  intro p loose mean mg mb dp un gd cn cs L0 a0 ccd cl outer base g L s E Q rest κ τ κs x d sx sd pb fs b tk pos ln tb tp tl tt tst es q tc B F X N T hk hd hu hr1 hr2 n1 n2 n3 n4 n5 n6 hn5 hE again
  dsimp only [lexD] at N
  refine fold1 N ?_
  clear N
  intro es9 N
  k_steps
  all_goals (refine' again _ _ _ _ ?f1 ?n1; (case f1 => (refine' fr_eq (by with_reducible assumption) ?_; walk_at "RTM")); (case n1 => first | with_reducible assumption | exact news_tl (by with_reducible assumption) | exact news_tl (news_tl (by with_reducible assumption))))
theorem rt_q_quote : Wants PySem.Challenge.rw_in0077_01 Mine.K → ∀ (prog : Program) (w : World), ForRt (Mine.K w.params) fun test b1 b2 b3 b4 orelse qual scope cdv =>
  ∀ (p : Program) (loose : List Str) (mean : ExcName → Option Value) (mg mb : Str → Option Value) (dp un : Nat) (gd : Option (List Code)) (cn : Str) (cs : Scope) (L0 a0 : Addr) (ccd : Value) (cl : List (Str × Addr)) (outer : List Env) (base g : Heap) (L : Addr) (s : Shared) (E : Value → Shared → Prop) (Q : Flow → Shared → Prop) (rest : List (Addr × Obj)) (κ τ κs : Nat → Tok) (x d sx sd pb fs : Addr) (b tk : Str) (pos ln : Int) (tb tp tl tt tst : Tok) (es : Value) (q : Bool) (tc : Tok),
  Below (ktrTop dp un gd cn cs L0 a0 ccd cl outer) base (envX cn cs L0 a0 ccd cl :: outer) g → Fr g L s.heap (rtM x (some (.str (Str.ofString "'") tc)) es q) → (Mine.K w.params).In g → News g L s.heap ((x, instObj 746 d) :: (d, lexD w.params κ τ sx pb fs (.str (Str.ofString "'") tst) ln tl tk tt) :: (sx, instObj 611 sd) :: (sd, sioD w.params κs b pos tb tp) :: rest) → Top p loose mean mg mb g → cs.kind = .function → dp + 6 < recursionLimit → un + 80 < cLine → (∀ q ∈ rest, q.1 ≠ d) → (∀ q ∈ rest, q.1 ≠ sd) → x ≠ d → x ≠ sd → sx ≠ d → sx ≠ sd → d ≠ sd → sd ≠ d →
  PassesOwn (model prog w) ((ktrTop dp un gd cn cs L0 a0 ccd cl outer).deeper (envOf qual scope L 714 cdv)) (envOf qual scope L 714 cdv) E →
  (∀ (h' : Heap) (tk' : Nat) (tt' tst' : Tok), Fr g L h' (rtM x (some (.str (Str.ofString "'") tc)) es true) → News g L h' ((x, instObj 746 d) :: (d, lexD w.params κ τ sx pb fs (.str (Str.ofString "a") tst') ln tl tk tt') :: (sx, instObj 611 sd) :: (sd, sioD w.params κs b pos tb tp) :: rest) → WhlRest prog w ((ktrTop dp un gd cn cs L0 a0 ccd cl outer).deeper (envOf qual scope L 714 cdv)) E (envOf qual scope L 714 cdv) test [b1, b2, b3, b4] orelse Q 0 { s with heap := h', toks := tk' }) →
  wpAny (model prog w) ((ktrTop dp un gd cn cs L0 a0 ccd cl outer).deeper (envOf qual scope L 714 cdv)) (execs [b4] (envOf qual scope L 714 cdv)) (WhlPost prog w ((ktrTop dp un gd cn cs L0 a0 ccd cl outer).deeper (envOf qual scope L 714 cdv)) E (envOf qual scope L 714 cdv) test [b1, b2, b3, b4] orelse Q 0) E s := by
  k_fill
  intro _ prog w
  refine' ForRt.mk ?h ?_
  case h => walk_at "Mine.KN"
  intro p loose mean mg mb dp un gd cn cs L0 a0 ccd cl outer base g L s E Q rest κ τ κs x d sx sd pb fs b tk pos ln tb tp tl tt tst es q tc B F X N T hk hd hu hr1 hr2 n1 n2 n3 n4 n5 n6 hE again
  dsimp only [lexD] at N
  refine fold1 N ?_
  clear N
  intro es9 N
  k_steps
  all_goals (refine' again _ _ _ _ ?f1 ?n1; (case f1 => (refine' fr_eq (by with_reducible assumption) ?_; walk_at "RTM")); (case n1 => first | with_reducible assumption | exact news_tl (by with_reducible assumption) | exact news_tl (news_tl (by with_reducible assumption))))
theorem rt_d_quote : Wants PySem.Challenge.rw_in0077_01 Mine.K → ∀ (prog : Program) (w : World), ForRt (Mine.K w.params) fun test b1 b2 b3 b4 orelse qual scope cdv =>
  ∀ (p : Program) (loose : List Str) (mean : ExcName → Option Value) (mg mb : Str → Option Value) (dp un : Nat) (gd : Option (List Code)) (cn : Str) (cs : Scope) (L0 a0 : Addr) (ccd : Value) (cl : List (Str × Addr)) (outer : List Env) (base g : Heap) (L : Addr) (s : Shared) (E : Value → Shared → Prop) (Q : Flow → Shared → Prop) (rest : List (Addr × Obj)) (κ τ κs : Nat → Tok) (x d sx sd pb fs : Addr) (b tk : Str) (pos ln : Int) (tb tp tl tt tst : Tok) (es : Value) (q : Bool) (tc : Tok),
  Below (ktrTop dp un gd cn cs L0 a0 ccd cl outer) base (envX cn cs L0 a0 ccd cl :: outer) g → Fr g L s.heap (rtM x (some (.str (Str.ofString "'") tc)) es q) → (Mine.K w.params).In g → News g L s.heap ((x, instObj 746 d) :: (d, lexD w.params κ τ sx pb fs (.str (Str.ofString "\"") tst) ln tl tk tt) :: (sx, instObj 611 sd) :: (sd, sioD w.params κs b pos tb tp) :: rest) → Top p loose mean mg mb g → cs.kind = .function → dp + 6 < recursionLimit → un + 80 < cLine → (∀ q ∈ rest, q.1 ≠ d) → (∀ q ∈ rest, q.1 ≠ sd) → x ≠ d → x ≠ sd → sx ≠ d → sx ≠ sd → d ≠ sd → sd ≠ d →
  tk.length + 1 ≤ sizeLine → PassesOwn (model prog w) ((ktrTop dp un gd cn cs L0 a0 ccd cl outer).deeper (envOf qual scope L 714 cdv)) (envOf qual scope L 714 cdv) E →
  (∀ (h' : Heap) (tk' : Nat) (tt' tst' : Tok), Fr g L h' (rtM x (some (.str (Str.ofString "'") tc)) es true) → News g L h' ((x, instObj 746 d) :: (d, lexD w.params κ τ sx pb fs (.str (Str.ofString "\"") tst') ln tl (tk ++ Str.ofString "'") tt') :: (sx, instObj 611 sd) :: (sd, sioD w.params κs b pos tb tp) :: rest) → WhlRest prog w ((ktrTop dp un gd cn cs L0 a0 ccd cl outer).deeper (envOf qual scope L 714 cdv)) E (envOf qual scope L 714 cdv) test [b1, b2, b3, b4] orelse Q 0 { s with heap := h', toks := tk' }) →
  wpAny (model prog w) ((ktrTop dp un gd cn cs L0 a0 ccd cl outer).deeper (envOf qual scope L 714 cdv)) (execs [b4] (envOf qual scope L 714 cdv)) (WhlPost prog w ((ktrTop dp un gd cn cs L0 a0 ccd cl outer).deeper (envOf qual scope L 714 cdv)) E (envOf qual scope L 714 cdv) test [b1, b2, b3, b4] orelse Q 0) E s := by
  k_fill
  intro _ prog w
  refine' ForRt.mk ?h ?_
  case h => walk_at "Mine.KN"
  intro p loose mean mg mb dp un gd cn cs L0 a0 ccd cl outer base g L s E Q rest κ τ κs x d sx sd pb fs b tk pos ln tb tp tl tt tst es q tc B F X N T hk hd hu hr1 hr2 n1 n2 n3 n4 n5 n6 hn5 hE again
  dsimp only [lexD] at N
  refine fold1 N ?_
  clear N
  intro es9 N
  k_steps
  all_goals (refine' again _ _ _ _ ?f1 ?n1; (case f1 => (refine' fr_eq (by with_reducible assumption) ?_; walk_at "RTM")); (case n1 => first | with_reducible assumption | exact news_tl (by with_reducible assumption) | exact news_tl (news_tl (by with_reducible assumption))))
theorem rt_d_close : Wants PySem.Challenge.rw_in0077_01 Mine.K → ∀ (prog : Program) (w : World), ForRt (Mine.K w.params) fun test b1 b2 b3 b4 orelse qual scope cdv =>
  ∀ (p : Program) (loose : List Str) (mean : ExcName → Option Value) (mg mb : Str → Option Value) (dp un : Nat) (gd : Option (List Code)) (cn : Str) (cs : Scope) (L0 a0 : Addr) (ccd : Value) (cl : List (Str × Addr)) (outer : List Env) (base g : Heap) (L : Addr) (s : Shared) (E : Value → Shared → Prop) (Q : Flow → Shared → Prop) (rest : List (Addr × Obj)) (κ τ κs : Nat → Tok) (x d sx sd pb fs : Addr) (b tk : Str) (pos ln : Int) (tb tp tl tt tst : Tok) (es : Value) (q : Bool) (tc : Tok),
  Below (ktrTop dp un gd cn cs L0 a0 ccd cl outer) base (envX cn cs L0 a0 ccd cl :: outer) g → Fr g L s.heap (rtM x (some (.str (Str.ofString "\"") tc)) es q) → (Mine.K w.params).In g → News g L s.heap ((x, instObj 746 d) :: (d, lexD w.params κ τ sx pb fs (.str (Str.ofString "\"") tst) ln tl tk tt) :: (sx, instObj 611 sd) :: (sd, sioD w.params κs b pos tb tp) :: rest) → Top p loose mean mg mb g → cs.kind = .function → dp + 6 < recursionLimit → un + 80 < cLine → (∀ q ∈ rest, q.1 ≠ d) → (∀ q ∈ rest, q.1 ≠ sd) → x ≠ d → x ≠ sd → sx ≠ d → sx ≠ sd → d ≠ sd → sd ≠ d →
  PassesOwn (model prog w) ((ktrTop dp un gd cn cs L0 a0 ccd cl outer).deeper (envOf qual scope L 714 cdv)) (envOf qual scope L 714 cdv) E →
  (∀ (h' : Heap) (tk' : Nat) (tt' tst' : Tok), Fr g L h' (rtM x (some (.str (Str.ofString "\"") tc)) es true) → News g L h' ((x, instObj 746 d) :: (d, lexD w.params κ τ sx pb fs (.str (Str.ofString "a") tst') ln tl tk tt') :: (sx, instObj 611 sd) :: (sd, sioD w.params κs b pos tb tp) :: rest) → WhlRest prog w ((ktrTop dp un gd cn cs L0 a0 ccd cl outer).deeper (envOf qual scope L 714 cdv)) E (envOf qual scope L 714 cdv) test [b1, b2, b3, b4] orelse Q 0 { s with heap := h', toks := tk' }) →
  wpAny (model prog w) ((ktrTop dp un gd cn cs L0 a0 ccd cl outer).deeper (envOf qual scope L 714 cdv)) (execs [b4] (envOf qual scope L 714 cdv)) (WhlPost prog w ((ktrTop dp un gd cn cs L0 a0 ccd cl outer).deeper (envOf qual scope L 714 cdv)) E (envOf qual scope L 714 cdv) test [b1, b2, b3, b4] orelse Q 0) E s := by
  k_fill
  intro _ prog w
  refine' ForRt.mk ?h ?_
  case h => walk_at "Mine.KN"
  intro p loose mean mg mb dp un gd cn cs L0 a0 ccd cl outer base g L s E Q rest κ τ κs x d sx sd pb fs b tk pos ln tb tp tl tt tst es q tc B F X N T hk hd hu hr1 hr2 n1 n2 n3 n4 n5 n6 hE again
  dsimp only [lexD] at N
  refine fold1 N ?_
  clear N
  intro es9 N
  k_steps
  all_goals (refine' again _ _ _ _ ?f1 ?n1; (case f1 => (refine' fr_eq (by with_reducible assumption) ?_; walk_at "RTM")); (case n1 => first | with_reducible assumption | exact news_tl (by with_reducible assumption) | exact news_tl (news_tl (by with_reducible assumption))))
theorem rt_a_letter : Wants PySem.Challenge.rw_in0077_01 Mine.K → ∀ (prog : Program) (w : World), ForRt (Mine.K w.params) fun test b1 b2 b3 b4 orelse qual scope cdv =>
  ∀ (p : Program) (loose : List Str) (mean : ExcName → Option Value) (mg mb : Str → Option Value) (dp un : Nat) (gd : Option (List Code)) (cn : Str) (cs : Scope) (L0 a0 : Addr) (ccd : Value) (cl : List (Str × Addr)) (outer : List Env) (base g : Heap) (L : Addr) (s : Shared) (E : Value → Shared → Prop) (Q : Flow → Shared → Prop) (rest : List (Addr × Obj)) (κ τ κs : Nat → Tok) (x d sx sd pb fs : Addr) (b tk : Str) (pos ln : Int) (tb tp tl tt tst : Tok) (es : Value) (q : Bool) (tc : Tok) (c : Str),
  Below (ktrTop dp un gd cn cs L0 a0 ccd cl outer) base (envX cn cs L0 a0 ccd cl :: outer) g → Fr g L s.heap (rtM x (some (.str c tc)) es q) → (Mine.K w.params).In g → News g L s.heap ((x, instObj 746 d) :: (d, lexD w.params κ τ sx pb fs (.str (Str.ofString "a") tst) ln tl tk tt) :: (sx, instObj 611 sd) :: (sd, sioD w.params κs b pos tb tp) :: rest) → Top p loose mean mg mb g → cs.kind = .function → dp + 6 < recursionLimit → un + 80 < cLine → (∀ q ∈ rest, q.1 ≠ d) → (∀ q ∈ rest, q.1 ≠ sd) → x ≠ d → x ≠ sd → sx ≠ d → sx ≠ sd → d ≠ sd → sd ≠ d →
  (c == Str.ofString "\n") = false → (0 < c.length ∧ c.length < 2 ^ 62) → (Builtin.Str.occurrences (Str.ofString " \t\r\n") c 0 (Str.length (Str.ofString " \t\r\n")) 1).isEmpty = true → (Builtin.Str.occurrences (Str.ofString "#") c 0 (Str.length (Str.ofString "#")) 1).isEmpty = true → (Builtin.Str.occurrences (Str.ofString "'\"") c 0 (Str.length (Str.ofString "'\"")) 1).isEmpty = true → (Builtin.Str.occurrences (Str.ofString "\\") c 0 (Str.length (Str.ofString "\\")) 1).isEmpty = true → (Builtin.Str.occurrences wordC c 0 (Str.length wordC) 1).isEmpty = false → tk.length + c.length ≤ sizeLine → PassesOwn (model prog w) ((ktrTop dp un gd cn cs L0 a0 ccd cl outer).deeper (envOf qual scope L 714 cdv)) (envOf qual scope L 714 cdv) E →
  (∀ (h' : Heap) (tk' : Nat) (tt' tst' : Tok), Fr g L h' (rtM x (some (.str c tc)) es q) → News g L h' ((x, instObj 746 d) :: (d, lexD w.params κ τ sx pb fs (.str (Str.ofString "a") tst') ln tl (tk ++ c) tt') :: (sx, instObj 611 sd) :: (sd, sioD w.params κs b pos tb tp) :: rest) → WhlRest prog w ((ktrTop dp un gd cn cs L0 a0 ccd cl outer).deeper (envOf qual scope L 714 cdv)) E (envOf qual scope L 714 cdv) test [b1, b2, b3, b4] orelse Q 0 { s with heap := h', toks := tk' }) →
  wpAny (model prog w) ((ktrTop dp un gd cn cs L0 a0 ccd cl outer).deeper (envOf qual scope L 714 cdv)) (execs [b4] (envOf qual scope L 714 cdv)) (WhlPost prog w ((ktrTop dp un gd cn cs L0 a0 ccd cl outer).deeper (envOf qual scope L 714 cdv)) E (envOf qual scope L 714 cdv) test [b1, b2, b3, b4] orelse Q 0) E s := by
  k_fill
  intro _ prog w
  refine' ForRt.mk ?h ?_
  case h => walk_at "Mine.KN"
  intro p loose mean mg mb dp un gd cn cs L0 a0 ccd cl outer base g L s E Q rest κ τ κs x d sx sd pb fs b tk pos ln tb tp tl tt tst es q tc c B F X N T hk hd hu hr1 hr2 n1 n2 n3 n4 n5 n6 hn1 hn2 hw hh hq hes hwc hn5 hE again
  dsimp only [lexD] at N
  refine fold1 N ?_
  clear N
  intro es9 N
  k_steps
  all_goals (refine' again _ _ _ _ ?f1 ?n1; (case f1 => (refine' fr_eq (by with_reducible assumption) ?_; walk_at "RTM")); (case n1 => first | with_reducible assumption | exact news_tl (by with_reducible assumption) | exact news_tl (news_tl (by with_reducible assumption))))
theorem rt_a_space : Wants PySem.Challenge.rw_in0077_01 Mine.K → ∀ (prog : Program) (w : World), ForRt (Mine.K w.params) fun test b1 b2 b3 b4 orelse qual scope cdv =>
  ∀ (p : Program) (loose : List Str) (mean : ExcName → Option Value) (mg mb : Str → Option Value) (dp un : Nat) (gd : Option (List Code)) (cn : Str) (cs : Scope) (L0 a0 : Addr) (ccd : Value) (cl : List (Str × Addr)) (outer : List Env) (base g : Heap) (L : Addr) (s : Shared) (E : Value → Shared → Prop) (Q : Flow → Shared → Prop) (rest : List (Addr × Obj)) (κ τ κs : Nat → Tok) (x d sx sd pb fs : Addr) (b tk : Str) (pos ln : Int) (tb tp tl tt tst : Tok) (es : Value) (q : Bool) (tc : Tok),
  Below (ktrTop dp un gd cn cs L0 a0 ccd cl outer) base (envX cn cs L0 a0 ccd cl :: outer) g → Fr g L s.heap (rtM x (some (.str (Str.ofString " ") tc)) es q) → (Mine.K w.params).In g → News g L s.heap ((x, instObj 746 d) :: (d, lexD w.params κ τ sx pb fs (.str (Str.ofString "a") tst) ln tl tk tt) :: (sx, instObj 611 sd) :: (sd, sioD w.params κs b pos tb tp) :: rest) → Top p loose mean mg mb g → cs.kind = .function → dp + 6 < recursionLimit → un + 80 < cLine → (∀ q ∈ rest, q.1 ≠ d) → (∀ q ∈ rest, q.1 ≠ sd) → x ≠ d → x ≠ sd → sx ≠ d → sx ≠ sd → d ≠ sd → sd ≠ d →
  tk.length < 2 ^ 62 → ((tk.length : Int) != 0) = true → PassesOwn (model prog w) ((ktrTop dp un gd cn cs L0 a0 ccd cl outer).deeper (envOf qual scope L 714 cdv)) (envOf qual scope L 714 cdv) E →
  (∀ (h' : Heap) (tk' : Nat) (tt' tst' : Tok), Fr g L h' (rtM x (some (.str (Str.ofString " ") tc)) es q) → News g L h' ((x, instObj 746 d) :: (d, lexD w.params κ τ sx pb fs (.str (Str.ofString " ") tst') ln tl tk tt') :: (sx, instObj 611 sd) :: (sd, sioD w.params κs b pos tb tp) :: rest) → Q .next { s with heap := h', toks := tk' }) →
  wpAny (model prog w) ((ktrTop dp un gd cn cs L0 a0 ccd cl outer).deeper (envOf qual scope L 714 cdv)) (execs [b4] (envOf qual scope L 714 cdv)) (WhlPost prog w ((ktrTop dp un gd cn cs L0 a0 ccd cl outer).deeper (envOf qual scope L 714 cdv)) E (envOf qual scope L 714 cdv) test [b1, b2, b3, b4] orelse Q 0) E s := by
  k_fill
  intro _ prog w
  refine' ForRt.mk ?h ?_
  case h => walk_at "Mine.KN"
  intro p loose mean mg mb dp un gd cn cs L0 a0 ccd cl outer base g L s E Q rest κ τ κs x d sx sd pb fs b tk pos ln tb tp tl tt tst es q tc B F X N T hk hd hu hr1 hr2 n1 n2 n3 n4 n5 n6 ht1 ht2 hE again
  dsimp only [lexD] at N
  refine fold1 N ?_
  clear N
  intro es9 N
  k_steps
  all_goals (refine' again _ _ _ _ ?f1 ?n1; (case f1 => (refine' fr_eq (by with_reducible assumption) ?_; walk_at "RTM")); (case n1 => first | with_reducible assumption | exact news_tl (by with_reducible assumption) | exact news_tl (news_tl (by with_reducible assumption))))
theorem rt_a_space_q : Wants PySem.Challenge.rw_in0077_01 Mine.K → ∀ (prog : Program) (w : World), ForRt (Mine.K w.params) fun test b1 b2 b3 b4 orelse qual scope cdv =>
  ∀ (p : Program) (loose : List Str) (mean : ExcName → Option Value) (mg mb : Str → Option Value) (dp un : Nat) (gd : Option (List Code)) (cn : Str) (cs : Scope) (L0 a0 : Addr) (ccd : Value) (cl : List (Str × Addr)) (outer : List Env) (base g : Heap) (L : Addr) (s : Shared) (E : Value → Shared → Prop) (Q : Flow → Shared → Prop) (rest : List (Addr × Obj)) (κ τ κs : Nat → Tok) (x d sx sd pb fs : Addr) (b tk : Str) (pos ln : Int) (tb tp tl tt tst : Tok) (es : Value) (q : Bool) (tc : Tok),
  Below (ktrTop dp un gd cn cs L0 a0 ccd cl outer) base (envX cn cs L0 a0 ccd cl :: outer) g → Fr g L s.heap (rtM x (some (.str (Str.ofString " ") tc)) es q) → (Mine.K w.params).In g → News g L s.heap ((x, instObj 746 d) :: (d, lexD w.params κ τ sx pb fs (.str (Str.ofString "a") tst) ln tl tk tt) :: (sx, instObj 611 sd) :: (sd, sioD w.params κs b pos tb tp) :: rest) → Top p loose mean mg mb g → cs.kind = .function → dp + 6 < recursionLimit → un + 80 < cLine → (∀ q ∈ rest, q.1 ≠ d) → (∀ q ∈ rest, q.1 ≠ sd) → x ≠ d → x ≠ sd → sx ≠ d → sx ≠ sd → d ≠ sd → sd ≠ d →
  tk.length < 2 ^ 62 → ((tk.length : Int) != 0) = false → q = true → PassesOwn (model prog w) ((ktrTop dp un gd cn cs L0 a0 ccd cl outer).deeper (envOf qual scope L 714 cdv)) (envOf qual scope L 714 cdv) E →
  (∀ (h' : Heap) (tk' : Nat) (tt' tst' : Tok), Fr g L h' (rtM x (some (.str (Str.ofString " ") tc)) es q) → News g L h' ((x, instObj 746 d) :: (d, lexD w.params κ τ sx pb fs (.str (Str.ofString " ") tst') ln tl tk tt') :: (sx, instObj 611 sd) :: (sd, sioD w.params κs b pos tb tp) :: rest) → Q .next { s with heap := h', toks := tk' }) →
  wpAny (model prog w) ((ktrTop dp un gd cn cs L0 a0 ccd cl outer).deeper (envOf qual scope L 714 cdv)) (execs [b4] (envOf qual scope L 714 cdv)) (WhlPost prog w ((ktrTop dp un gd cn cs L0 a0 ccd cl outer).deeper (envOf qual scope L 714 cdv)) E (envOf qual scope L 714 cdv) test [b1, b2, b3, b4] orelse Q 0) E s := by
  k_fill
  intro _ prog w
  refine' ForRt.mk ?h ?_
  case h => walk_at "Mine.KN"
  intro p loose mean mg mb dp un gd cn cs L0 a0 ccd cl outer base g L s E Q rest κ τ κs x d sx sd pb fs b tk pos ln tb tp tl tt tst es q tc B F X N T hk hd hu hr1 hr2 n1 n2 n3 n4 n5 n6 ht1 ht2 hq hE again
  dsimp only [lexD] at N
  refine fold1 N ?_
  clear N
  intro es9 N
  k_steps
  all_goals (refine' again _ _ _ _ ?f1 ?n1; (case f1 => (refine' fr_eq (by with_reducible assumption) ?_; walk_at "RTM")); (case n1 => first | with_reducible assumption | exact news_tl (by with_reducible assumption) | exact news_tl (news_tl (by with_reducible assumption))))
theorem rt_a_quote : Wants PySem.Challenge.rw_in0077_01 Mine.K → ∀ (prog : Program) (w : World), ForRt (Mine.K w.params) fun test b1 b2 b3 b4 orelse qual scope cdv =>
  ∀ (p : Program) (loose : List Str) (mean : ExcName → Option Value) (mg mb : Str → Option Value) (dp un : Nat) (gd : Option (List Code)) (cn : Str) (cs : Scope) (L0 a0 : Addr) (ccd : Value) (cl : List (Str × Addr)) (outer : List Env) (base g : Heap) (L : Addr) (s : Shared) (E : Value → Shared → Prop) (Q : Flow → Shared → Prop) (rest : List (Addr × Obj)) (κ τ κs : Nat → Tok) (x d sx sd pb fs : Addr) (b tk : Str) (pos ln : Int) (tb tp tl tt tst : Tok) (es : Value) (q : Bool) (tc : Tok),
  Below (ktrTop dp un gd cn cs L0 a0 ccd cl outer) base (envX cn cs L0 a0 ccd cl :: outer) g → Fr g L s.heap (rtM x (some (.str (Str.ofString "'") tc)) es q) → (Mine.K w.params).In g → News g L s.heap ((x, instObj 746 d) :: (d, lexD w.params κ τ sx pb fs (.str (Str.ofString "a") tst) ln tl tk tt) :: (sx, instObj 611 sd) :: (sd, sioD w.params κs b pos tb tp) :: rest) → Top p loose mean mg mb g → cs.kind = .function → dp + 6 < recursionLimit → un + 80 < cLine → (∀ q ∈ rest, q.1 ≠ d) → (∀ q ∈ rest, q.1 ≠ sd) → x ≠ d → x ≠ sd → sx ≠ d → sx ≠ sd → d ≠ sd → sd ≠ d →
  PassesOwn (model prog w) ((ktrTop dp un gd cn cs L0 a0 ccd cl outer).deeper (envOf qual scope L 714 cdv)) (envOf qual scope L 714 cdv) E →
  (∀ (h' : Heap) (tk' : Nat) (tt' tst' : Tok), Fr g L h' (rtM x (some (.str (Str.ofString "'") tc)) es q) → News g L h' ((x, instObj 746 d) :: (d, lexD w.params κ τ sx pb fs (.str (Str.ofString "'") tst') ln tl tk tt') :: (sx, instObj 611 sd) :: (sd, sioD w.params κs b pos tb tp) :: rest) → WhlRest prog w ((ktrTop dp un gd cn cs L0 a0 ccd cl outer).deeper (envOf qual scope L 714 cdv)) E (envOf qual scope L 714 cdv) test [b1, b2, b3, b4] orelse Q 0 { s with heap := h', toks := tk' }) →
  wpAny (model prog w) ((ktrTop dp un gd cn cs L0 a0 ccd cl outer).deeper (envOf qual scope L 714 cdv)) (execs [b4] (envOf qual scope L 714 cdv)) (WhlPost prog w ((ktrTop dp un gd cn cs L0 a0 ccd cl outer).deeper (envOf qual scope L 714 cdv)) E (envOf qual scope L 714 cdv) test [b1, b2, b3, b4] orelse Q 0) E s := by
  k_fill
  intro _ prog w
  refine' ForRt.mk ?h ?_
  case h => walk_at "Mine.KN"
  intro p loose mean mg mb dp un gd cn cs L0 a0 ccd cl outer base g L s E Q rest κ τ κs x d sx sd pb fs b tk pos ln tb tp tl tt tst es q tc B F X N T hk hd hu hr1 hr2 n1 n2 n3 n4 n5 n6 hE again
  dsimp only [lexD] at N
  refine fold1 N ?_
  clear N
  intro es9 N
  k_steps
  all_goals (refine' again _ _ _ _ ?f1 ?n1; (case f1 => (refine' fr_eq (by with_reducible assumption) ?_; walk_at "RTM")); (case n1 => first | with_reducible assumption | exact news_tl (by with_reducible assumption) | exact news_tl (news_tl (by with_reducible assumption))))
theorem rt_a_dquote : Wants PySem.Challenge.rw_in0077_01 Mine.K → ∀ (prog : Program) (w : World), ForRt (Mine.K w.params) fun test b1 b2 b3 b4 orelse qual scope cdv =>
  ∀ (p : Program) (loose : List Str) (mean : ExcName → Option Value) (mg mb : Str → Option Value) (dp un : Nat) (gd : Option (List Code)) (cn : Str) (cs : Scope) (L0 a0 : Addr) (ccd : Value) (cl : List (Str × Addr)) (outer : List Env) (base g : Heap) (L : Addr) (s : Shared) (E : Value → Shared → Prop) (Q : Flow → Shared → Prop) (rest : List (Addr × Obj)) (κ τ κs : Nat → Tok) (x d sx sd pb fs : Addr) (b tk : Str) (pos ln : Int) (tb tp tl tt tst : Tok) (es : Value) (q : Bool) (tc : Tok),
  Below (ktrTop dp un gd cn cs L0 a0 ccd cl outer) base (envX cn cs L0 a0 ccd cl :: outer) g → Fr g L s.heap (rtM x (some (.str (Str.ofString "\"") tc)) es q) → (Mine.K w.params).In g → News g L s.heap ((x, instObj 746 d) :: (d, lexD w.params κ τ sx pb fs (.str (Str.ofString "a") tst) ln tl tk tt) :: (sx, instObj 611 sd) :: (sd, sioD w.params κs b pos tb tp) :: rest) → Top p loose mean mg mb g → cs.kind = .function → dp + 6 < recursionLimit → un + 80 < cLine → (∀ q ∈ rest, q.1 ≠ d) → (∀ q ∈ rest, q.1 ≠ sd) → x ≠ d → x ≠ sd → sx ≠ d → sx ≠ sd → d ≠ sd → sd ≠ d →
  PassesOwn (model prog w) ((ktrTop dp un gd cn cs L0 a0 ccd cl outer).deeper (envOf qual scope L 714 cdv)) (envOf qual scope L 714 cdv) E →
  (∀ (h' : Heap) (tk' : Nat) (tt' tst' : Tok), Fr g L h' (rtM x (some (.str (Str.ofString "\"") tc)) es q) → News g L h' ((x, instObj 746 d) :: (d, lexD w.params κ τ sx pb fs (.str (Str.ofString "\"") tst') ln tl tk tt') :: (sx, instObj 611 sd) :: (sd, sioD w.params κs b pos tb tp) :: rest) → WhlRest prog w ((ktrTop dp un gd cn cs L0 a0 ccd cl outer).deeper (envOf qual scope L 714 cdv)) E (envOf qual scope L 714 cdv) test [b1, b2, b3, b4] orelse Q 0 { s with heap := h', toks := tk' }) →
  wpAny (model prog w) ((ktrTop dp un gd cn cs L0 a0 ccd cl outer).deeper (envOf qual scope L 714 cdv)) (execs [b4] (envOf qual scope L 714 cdv)) (WhlPost prog w ((ktrTop dp un gd cn cs L0 a0 ccd cl outer).deeper (envOf qual scope L 714 cdv)) E (envOf qual scope L 714 cdv) test [b1, b2, b3, b4] orelse Q 0) E s := by
  k_fill
  intro _ prog w
  refine' ForRt.mk ?h ?_
  case h => walk_at "Mine.KN"
  intro p loose mean mg mb dp un gd cn cs L0 a0 ccd cl outer base g L s E Q rest κ τ κs x d sx sd pb fs b tk pos ln tb tp tl tt tst es q tc B F X N T hk hd hu hr1 hr2 n1 n2 n3 n4 n5 n6 hE again
  dsimp only [lexD] at N
  refine fold1 N ?_
  clear N
  intro es9 N
  k_steps
  all_goals (refine' again _ _ _ _ ?f1 ?n1; (case f1 => (refine' fr_eq (by with_reducible assumption) ?_; walk_at "RTM")); (case n1 => first | with_reducible assumption | exact news_tl (by with_reducible assumption) | exact news_tl (news_tl (by with_reducible assumption))))
section
local macro_rules | `(tactic| walk_at "call ref") => `(tactic| ktr_call 565 use_c_readline)
theorem rt_s_letter : Wants PySem.Challenge.rw_in0077_01 Mine.K → ∀ (prog : Program) (w : World), ForRt (Mine.K w.params) fun test b1 b2 b3 b4 orelse qual scope cdv =>
  ∀ (p : Program) (loose : List Str) (mean : ExcName → Option Value) (mg mb : Str → Option Value) (dp un : Nat) (gd : Option (List Code)) (cn : Str) (cs : Scope) (L0 a0 : Addr) (ccd : Value) (cl : List (Str × Addr)) (outer : List Env) (base g : Heap) (L : Addr) (s : Shared) (E : Value → Shared → Prop) (Q : Flow → Shared → Prop) (rest : List (Addr × Obj)) (κ τ κs : Nat → Tok) (x d sx sd pb fs : Addr) (b tk : Str) (pos ln : Int) (tb tp tl tt tst : Tok) (es : Value) (q : Bool) (tc : Tok) (c : Str),
  Below (ktrTop dp un gd cn cs L0 a0 ccd cl outer) base (envX cn cs L0 a0 ccd cl :: outer) g → Fr g L s.heap (rtM x (some (.str c tc)) es q) → (Mine.K w.params).In g → News g L s.heap ((x, instObj 746 d) :: (d, lexD w.params κ τ sx pb fs (.str (Str.ofString " ") tst) ln tl tk tt) :: (sx, instObj 611 sd) :: (sd, sioD w.params κs b pos tb tp) :: rest) → Top p loose mean mg mb g → cs.kind = .function → dp + 6 < recursionLimit → un + 80 < cLine → (∀ q ∈ rest, q.1 ≠ d) → (∀ q ∈ rest, q.1 ≠ sd) → x ≠ d → x ≠ sd → sx ≠ d → sx ≠ sd → d ≠ sd → sd ≠ d →
  (c == Str.ofString "\n") = false → (0 < c.length ∧ c.length < 2 ^ 62) → (Builtin.Str.occurrences (Str.ofString " \t\r\n") c 0 (Str.length (Str.ofString " \t\r\n")) 1).isEmpty = true → (Builtin.Str.occurrences (Str.ofString "#") c 0 (Str.length (Str.ofString "#")) 1).isEmpty = true → (Builtin.Str.occurrences (Str.ofString "\\") c 0 (Str.length (Str.ofString "\\")) 1).isEmpty = true → (Builtin.Str.occurrences wordC c 0 (Str.length wordC) 1).isEmpty = false → PassesOwn (model prog w) ((ktrTop dp un gd cn cs L0 a0 ccd cl outer).deeper (envOf qual scope L 714 cdv)) (envOf qual scope L 714 cdv) E →
  (∀ (h' : Heap) (tk' : Nat) (tt' tst' : Tok), Fr g L h' (rtM x (some (.str c tc)) es q) → News g L h' ((x, instObj 746 d) :: (d, lexD w.params κ τ sx pb fs (.str (Str.ofString "a") tst') ln tl c tt') :: (sx, instObj 611 sd) :: (sd, sioD w.params κs b pos tb tp) :: rest) → WhlRest prog w ((ktrTop dp un gd cn cs L0 a0 ccd cl outer).deeper (envOf qual scope L 714 cdv)) E (envOf qual scope L 714 cdv) test [b1, b2, b3, b4] orelse Q 0 { s with heap := h', toks := tk' }) →
  wpAny (model prog w) ((ktrTop dp un gd cn cs L0 a0 ccd cl outer).deeper (envOf qual scope L 714 cdv)) (execs [b4] (envOf qual scope L 714 cdv)) (WhlPost prog w ((ktrTop dp un gd cn cs L0 a0 ccd cl outer).deeper (envOf qual scope L 714 cdv)) E (envOf qual scope L 714 cdv) test [b1, b2, b3, b4] orelse Q 0) E s := by
  k_fill
  intro _ prog w
  refine' ForRt.mk ?h ?_
  case h => walk_at "Mine.KN"
  intro p loose mean mg mb dp un gd cn cs L0 a0 ccd cl outer base g L s E Q rest κ τ κs x d sx sd pb fs b tk pos ln tb tp tl tt tst es q tc c B F X N T hk hd hu hr1 hr2 n1 n2 n3 n4 n5 n6 hn1 hn2 hw hh hes hwc hE again
  dsimp only [lexD] at N
  refine fold1 N ?_
  clear N
  intro es9 N
  k_steps
  all_goals (refine' again _ _ _ _ ?f1 ?n1; (case f1 => (refine' fr_eq (by with_reducible assumption) ?_; walk_at "RTM")); (case n1 => first | with_reducible assumption | exact news_tl (by with_reducible assumption) | exact news_tl (news_tl (by with_reducible assumption))))
theorem rt_s_space : Wants PySem.Challenge.rw_in0077_01 Mine.K → ∀ (prog : Program) (w : World), ForRt (Mine.K w.params) fun test b1 b2 b3 b4 orelse qual scope cdv =>
  ∀ (p : Program) (loose : List Str) (mean : ExcName → Option Value) (mg mb : Str → Option Value) (dp un : Nat) (gd : Option (List Code)) (cn : Str) (cs : Scope) (L0 a0 : Addr) (ccd : Value) (cl : List (Str × Addr)) (outer : List Env) (base g : Heap) (L : Addr) (s : Shared) (E : Value → Shared → Prop) (Q : Flow → Shared → Prop) (rest : List (Addr × Obj)) (κ τ κs : Nat → Tok) (x d sx sd pb fs : Addr) (b tk : Str) (pos ln : Int) (tb tp tl tt tst : Tok) (es : Value) (q : Bool) (tc : Tok),
  Below (ktrTop dp un gd cn cs L0 a0 ccd cl outer) base (envX cn cs L0 a0 ccd cl :: outer) g → Fr g L s.heap (rtM x (some (.str (Str.ofString " ") tc)) es q) → (Mine.K w.params).In g → News g L s.heap ((x, instObj 746 d) :: (d, lexD w.params κ τ sx pb fs (.str (Str.ofString " ") tst) ln tl tk tt) :: (sx, instObj 611 sd) :: (sd, sioD w.params κs b pos tb tp) :: rest) → Top p loose mean mg mb g → cs.kind = .function → dp + 6 < recursionLimit → un + 80 < cLine → (∀ q ∈ rest, q.1 ≠ d) → (∀ q ∈ rest, q.1 ≠ sd) → x ≠ d → x ≠ sd → sx ≠ d → sx ≠ sd → d ≠ sd → sd ≠ d →
  tk.length < 2 ^ 62 → ((tk.length : Int) != 0) = false → q = false → PassesOwn (model prog w) ((ktrTop dp un gd cn cs L0 a0 ccd cl outer).deeper (envOf qual scope L 714 cdv)) (envOf qual scope L 714 cdv) E →
  (∀ (h' : Heap) (tk' : Nat) (tt' tst' : Tok), Fr g L h' (rtM x (some (.str (Str.ofString " ") tc)) es q) → News g L h' ((x, instObj 746 d) :: (d, lexD w.params κ τ sx pb fs (.str (Str.ofString " ") tst') ln tl tk tt') :: (sx, instObj 611 sd) :: (sd, sioD w.params κs b pos tb tp) :: rest) → WhlRest prog w ((ktrTop dp un gd cn cs L0 a0 ccd cl outer).deeper (envOf qual scope L 714 cdv)) E (envOf qual scope L 714 cdv) test [b1, b2, b3, b4] orelse Q 0 { s with heap := h', toks := tk' }) →
  wpAny (model prog w) ((ktrTop dp un gd cn cs L0 a0 ccd cl outer).deeper (envOf qual scope L 714 cdv)) (execs [b4] (envOf qual scope L 714 cdv)) (WhlPost prog w ((ktrTop dp un gd cn cs L0 a0 ccd cl outer).deeper (envOf qual scope L 714 cdv)) E (envOf qual scope L 714 cdv) test [b1, b2, b3, b4] orelse Q 0) E s := by
  k_fill
  intro _ prog w
  refine' ForRt.mk ?h ?_
  case h => walk_at "Mine.KN"
  intro p loose mean mg mb dp un gd cn cs L0 a0 ccd cl outer base g L s E Q rest κ τ κs x d sx sd pb fs b tk pos ln tb tp tl tt tst es q tc B F X N T hk hd hu hr1 hr2 n1 n2 n3 n4 n5 n6 ht1 ht2 hq hE again
  dsimp only [lexD] at N
  refine fold1 N ?_
  clear N
  intro es9 N
  k_steps
  all_goals (refine' again _ _ _ _ ?f1 ?n1; (case f1 => (refine' fr_eq (by with_reducible assumption) ?_; walk_at "RTM")); (case n1 => first | with_reducible assumption | exact news_tl (by with_reducible assumption) | exact news_tl (news_tl (by with_reducible assumption))))
theorem rt_s_quote : Wants PySem.Challenge.rw_in0077_01 Mine.K → ∀ (prog : Program) (w : World), ForRt (Mine.K w.params) fun test b1 b2 b3 b4 orelse qual scope cdv =>
  ∀ (p : Program) (loose : List Str) (mean : ExcName → Option Value) (mg mb : Str → Option Value) (dp un : Nat) (gd : Option (List Code)) (cn : Str) (cs : Scope) (L0 a0 : Addr) (ccd : Value) (cl : List (Str × Addr)) (outer : List Env) (base g : Heap) (L : Addr) (s : Shared) (E : Value → Shared → Prop) (Q : Flow → Shared → Prop) (rest : List (Addr × Obj)) (κ τ κs : Nat → Tok) (x d sx sd pb fs : Addr) (b tk : Str) (pos ln : Int) (tb tp tl tt tst : Tok) (es : Value) (q : Bool) (tc : Tok),
  Below (ktrTop dp un gd cn cs L0 a0 ccd cl outer) base (envX cn cs L0 a0 ccd cl :: outer) g → Fr g L s.heap (rtM x (some (.str (Str.ofString "'") tc)) es q) → (Mine.K w.params).In g → News g L s.heap ((x, instObj 746 d) :: (d, lexD w.params κ τ sx pb fs (.str (Str.ofString " ") tst) ln tl tk tt) :: (sx, instObj 611 sd) :: (sd, sioD w.params κs b pos tb tp) :: rest) → Top p loose mean mg mb g → cs.kind = .function → dp + 6 < recursionLimit → un + 80 < cLine → (∀ q ∈ rest, q.1 ≠ d) → (∀ q ∈ rest, q.1 ≠ sd) → x ≠ d → x ≠ sd → sx ≠ d → sx ≠ sd → d ≠ sd → sd ≠ d →
  PassesOwn (model prog w) ((ktrTop dp un gd cn cs L0 a0 ccd cl outer).deeper (envOf qual scope L 714 cdv)) (envOf qual scope L 714 cdv) E →
  (∀ (h' : Heap) (tk' : Nat) (tt' tst' : Tok), Fr g L h' (rtM x (some (.str (Str.ofString "'") tc)) es q) → News g L h' ((x, instObj 746 d) :: (d, lexD w.params κ τ sx pb fs (.str (Str.ofString "'") tst') ln tl tk tt') :: (sx, instObj 611 sd) :: (sd, sioD w.params κs b pos tb tp) :: rest) → WhlRest prog w ((ktrTop dp un gd cn cs L0 a0 ccd cl outer).deeper (envOf qual scope L 714 cdv)) E (envOf qual scope L 714 cdv) test [b1, b2, b3, b4] orelse Q 0 { s with heap := h', toks := tk' }) →
  wpAny (model prog w) ((ktrTop dp un gd cn cs L0 a0 ccd cl outer).deeper (envOf qual scope L 714 cdv)) (execs [b4] (envOf qual scope L 714 cdv)) (WhlPost prog w ((ktrTop dp un gd cn cs L0 a0 ccd cl outer).deeper (envOf qual scope L 714 cdv)) E (envOf qual scope L 714 cdv) test [b1, b2, b3, b4] orelse Q 0) E s := by
  k_fill
  intro _ prog w
  refine' ForRt.mk ?h ?_
  case h => walk_at "Mine.KN"
  intro p loose mean mg mb dp un gd cn cs L0 a0 ccd cl outer base g L s E Q rest κ τ κs x d sx sd pb fs b tk pos ln tb tp tl tt tst es q tc B F X N T hk hd hu hr1 hr2 n1 n2 n3 n4 n5 n6 hE again
  dsimp only [lexD] at N
  refine fold1 N ?_
  clear N
  intro es9 N
  k_steps
  all_goals (refine' again _ _ _ _ ?f1 ?n1; (case f1 => (refine' fr_eq (by with_reducible assumption) ?_; walk_at "RTM")); (case n1 => first | with_reducible assumption | exact news_tl (by with_reducible assumption) | exact news_tl (news_tl (by with_reducible assumption))))
theorem rt_s_hash : Wants PySem.Challenge.rw_in0077_01 Mine.K → ∀ (prog : Program) (w : World), ForRt (Mine.K w.params) fun test b1 b2 b3 b4 orelse qual scope cdv =>
  ∀ (p : Program) (loose : List Str) (mean : ExcName → Option Value) (mg mb : Str → Option Value) (dp un : Nat) (gd : Option (List Code)) (cn : Str) (cs : Scope) (L0 a0 : Addr) (ccd : Value) (cl : List (Str × Addr)) (outer : List Env) (base g : Heap) (L : Addr) (s : Shared) (E : Value → Shared → Prop) (Q : Flow → Shared → Prop) (rest : List (Addr × Obj)) (κ τ κs : Nat → Tok) (x d sx sd pb fs : Addr) (b tk : Str) (pos ln : Int) (tb tp tl tt tst : Tok) (es : Value) (q : Bool) (tc : Tok),
  Below (ktrTop dp un gd cn cs L0 a0 ccd cl outer) base (envX cn cs L0 a0 ccd cl :: outer) g → Fr g L s.heap (rtM x (some (.str (Str.ofString "#") tc)) es q) → (Mine.K w.params).In g → News g L s.heap ((x, instObj 746 d) :: (d, lexD w.params κ τ sx pb fs (.str (Str.ofString " ") tst) ln tl tk tt) :: (sx, instObj 611 sd) :: (sd, sioD w.params κs b pos tb tp) :: rest) → Top p loose mean mg mb g → cs.kind = .function → dp + 6 < recursionLimit → un + 80 < cLine → (∀ q ∈ rest, q.1 ≠ d) → (∀ q ∈ rest, q.1 ≠ sd) → x ≠ d → x ≠ sd → sx ≠ d → sx ≠ sd → d ≠ sd → sd ≠ d →
  0 ≤ pos → pos < b.length → b.length < 2 ^ 20 → find4 b (Str.ofString "\n") pos b.length = -1 → PassesOwn (model prog w) ((ktrTop dp un gd cn cs L0 a0 ccd cl outer).deeper (envOf qual scope L 714 cdv)) (envOf qual scope L 714 cdv) E →
  (∀ (h' : Heap) (tk' : Nat) (tt' tst' tl' tp' : Tok), Fr g L h' (rtM x (some (.str (Str.ofString "#") tc)) es q) → News g L h' ((x, instObj 746 d) :: (d, lexD w.params κ τ sx pb fs (.str (Str.ofString " ") tst') (ln + 1) tl' tk tt') :: (sx, instObj 611 sd) :: (sd, sioD w.params κs b b.length tb tp') :: rest) → WhlRest prog w ((ktrTop dp un gd cn cs L0 a0 ccd cl outer).deeper (envOf qual scope L 714 cdv)) E (envOf qual scope L 714 cdv) test [b1, b2, b3, b4] orelse Q 0 { s with heap := h', toks := tk' }) →
  wpAny (model prog w) ((ktrTop dp un gd cn cs L0 a0 ccd cl outer).deeper (envOf qual scope L 714 cdv)) (execs [b4] (envOf qual scope L 714 cdv)) (WhlPost prog w ((ktrTop dp un gd cn cs L0 a0 ccd cl outer).deeper (envOf qual scope L 714 cdv)) E (envOf qual scope L 714 cdv) test [b1, b2, b3, b4] orelse Q 0) E s := by
  k_fill
  intro _ prog w
  refine' ForRt.mk ?h ?_
  case h => walk_at "Mine.KN"
  intro p loose mean mg mb dp un gd cn cs L0 a0 ccd cl outer base g L s E Q rest κ τ κs x d sx sd pb fs b tk pos ln tb tp tl tt tst es q tc B F X N T hk hd hu hr1 hr2 n1 n2 n3 n4 n5 n6 h0 h1 hb hf hE again
  dsimp only [lexD] at N
  refine fold1 N ?_
  clear N
  intro es9 N
  k_steps
  all_goals (refine' again _ _ _ _ _ _ ?f1 ?n1; (case f1 => (refine' fr_eq (by with_reducible assumption) ?_; walk_at "RTM")); (case n1 => first | with_reducible assumption | exact news_tl (by with_reducible assumption) | exact news_tl (news_tl (by with_reducible assumption))))
theorem rt_s_end : Wants PySem.Challenge.rw_in0077_01 Mine.K → ∀ (prog : Program) (w : World), ForRt (Mine.K w.params) fun test b1 b2 b3 b4 orelse qual scope cdv =>
  ∀ (p : Program) (loose : List Str) (mean : ExcName → Option Value) (mg mb : Str → Option Value) (dp un : Nat) (gd : Option (List Code)) (cn : Str) (cs : Scope) (L0 a0 : Addr) (ccd : Value) (cl : List (Str × Addr)) (outer : List Env) (base g : Heap) (L : Addr) (s : Shared) (E : Value → Shared → Prop) (Q : Flow → Shared → Prop) (rest : List (Addr × Obj)) (κ τ κs : Nat → Tok) (x d sx sd pb fs : Addr) (b tk : Str) (pos ln : Int) (tb tp tl tt tst : Tok) (es : Value) (q : Bool) (tc : Tok),
  Below (ktrTop dp un gd cn cs L0 a0 ccd cl outer) base (envX cn cs L0 a0 ccd cl :: outer) g → Fr g L s.heap (rtM x (some (.str (Str.ofString "") tc)) es q) → (Mine.K w.params).In g → News g L s.heap ((x, instObj 746 d) :: (d, lexD w.params κ τ sx pb fs (.str (Str.ofString " ") tst) ln tl tk tt) :: (sx, instObj 611 sd) :: (sd, sioD w.params κs b pos tb tp) :: rest) → Top p loose mean mg mb g → cs.kind = .function → dp + 6 < recursionLimit → un + 80 < cLine → (∀ q ∈ rest, q.1 ≠ d) → (∀ q ∈ rest, q.1 ≠ sd) → x ≠ d → x ≠ sd → sx ≠ d → sx ≠ sd → d ≠ sd → sd ≠ d →
  PassesOwn (model prog w) ((ktrTop dp un gd cn cs L0 a0 ccd cl outer).deeper (envOf qual scope L 714 cdv)) (envOf qual scope L 714 cdv) E →
  (∀ (h' : Heap) (tk' : Nat) (tt' tst' : Tok), Fr g L h' (rtM x (some (.str (Str.ofString "") tc)) es q) → News g L h' ((x, instObj 746 d) :: (d, lexD w.params κ τ sx pb fs .none ln tl tk tt') :: (sx, instObj 611 sd) :: (sd, sioD w.params κs b pos tb tp) :: rest) → Q .next { s with heap := h', toks := tk' }) →
  wpAny (model prog w) ((ktrTop dp un gd cn cs L0 a0 ccd cl outer).deeper (envOf qual scope L 714 cdv)) (execs [b4] (envOf qual scope L 714 cdv)) (WhlPost prog w ((ktrTop dp un gd cn cs L0 a0 ccd cl outer).deeper (envOf qual scope L 714 cdv)) E (envOf qual scope L 714 cdv) test [b1, b2, b3, b4] orelse Q 0) E s := by
  k_fill
  intro _ prog w
  refine' ForRt.mk ?h ?_
  case h => walk_at "Mine.KN"
  intro p loose mean mg mb dp un gd cn cs L0 a0 ccd cl outer base g L s E Q rest κ τ κs x d sx sd pb fs b tk pos ln tb tp tl tt tst es q tc B F X N T hk hd hu hr1 hr2 n1 n2 n3 n4 n5 n6 hE again
  dsimp only [lexD] at N
  refine fold1 N ?_
  clear N
  intro es9 N
  k_steps
  all_goals (refine' again _ _ _ 0 ?f1 ?n1; (case f1 => (refine' fr_eq (by with_reducible assumption) ?_; walk_at "RTM")); (case n1 => first | with_reducible assumption | exact news_tl (by with_reducible assumption) | exact news_tl (news_tl (by with_reducible assumption))))
end
section
local macro_rules | `(tactic| walk_at "call ref") => `(tactic| ktr_call 557 use_c_read_end)
section
local macro_rules | `(tactic| walk_at "pad") => `(tactic| skip)
theorem rt_pre_end : Wants PySem.Challenge.rw_in0077_01 Mine.K → ∀ (prog : Program) (w : World), ForRt (Mine.K w.params) fun test b1 b2 b3 b4 orelse qual scope cdv =>
  ∀ (p : Program) (loose : List Str) (mean : ExcName → Option Value) (mg mb : Str → Option Value) (dp un : Nat) (gd : Option (List Code)) (cn : Str) (cs : Scope) (L0 a0 : Addr) (ccd : Value) (cl : List (Str × Addr)) (outer : List Env) (base g : Heap) (L : Addr) (s : Shared) (E : Value → Shared → Prop) (Q : Flow → Shared → Prop) (rest : List (Addr × Obj)) (κ τ κs : Nat → Tok) (x d sx sd pb fs : Addr) (b tk : Str) (pos ln : Int) (tb tp tl tt tst : Tok) (es : Value) (q : Bool) (stv : Value) (nc : Option Value),
  Below (ktrTop dp un gd cn cs L0 a0 ccd cl outer) base (envX cn cs L0 a0 ccd cl :: outer) g → Fr g L s.heap (rtM x nc es q) → (Mine.K w.params).In g → News g L s.heap ((x, instObj 746 d) :: (d, lexD w.params κ τ sx pb fs stv ln tl tk tt) :: (sx, instObj 611 sd) :: (sd, sioD w.params κs b pos tb tp) :: rest) → Top p loose mean mg mb g → cs.kind = .function → dp + 6 < recursionLimit → un + 80 < cLine → (∀ q ∈ rest, q.1 ≠ d) → (∀ q ∈ rest, q.1 ≠ sd) → x ≠ d → x ≠ sd → sx ≠ d → sx ≠ sd → d ≠ sd → sd ≠ d →
  pos = b.length → b.length < 2 ^ 20 → PassesOwn (model prog w) ((ktrTop dp un gd cn cs L0 a0 ccd cl outer).deeper (envOf qual scope L 714 cdv)) (envOf qual scope L 714 cdv) E →
  (∀ h' tk' t', Fr g L h' (rtM x (some (.str (Str.ofString "") t')) es q) → News g L h' ((x, instObj 746 d) :: (d, lexD w.params κ τ sx pb fs stv ln tl tk tt) :: (sx, instObj 611 sd) :: (sd, sioD w.params κs b pos tb tp) :: rest) →
    wpAny (model prog w) ((ktrTop dp un gd cn cs L0 a0 ccd cl outer).deeper (envOf qual scope L 714 cdv)) (execs [b4] (envOf qual scope L 714 cdv)) (WhlPost prog w ((ktrTop dp un gd cn cs L0 a0 ccd cl outer).deeper (envOf qual scope L 714 cdv)) E (envOf qual scope L 714 cdv) test [b1, b2, b3, b4] orelse Q 0) E { s with heap := h', toks := tk' }) →
  WhlRest prog w ((ktrTop dp un gd cn cs L0 a0 ccd cl outer).deeper (envOf qual scope L 714 cdv)) E (envOf qual scope L 714 cdv) test [b1, b2, b3, b4] orelse Q 1 s := by
  k_fill
  intro _ prog w
  refine' ForRt.mk4 ?h ?_
  case h => walk_at "Mine.KN"
  intro b4 hM
  intro p loose mean mg mb dp un gd cn cs L0 a0 ccd cl outer base g L s E Q rest κ τ κs x d sx sd pb fs b tk pos ln tb tp tl tt tst es q stv nc B F X N T hk hd hu hr1 hr2 n1 n2 n3 n4 n5 n6 h1 hb hE again
  dsimp only [lexD] at N
  refine fold1 N ?_
  clear N
  intro es9 N
  refine whl_turn hE ?_
  k_steps
  all_goals (refine' again _ _ _ ?f1 ?n1; (case f1 => (refine' fr_eq (by with_reducible assumption) ?_; walk_at "RTM")); (case n1 => first | with_reducible assumption | exact news_tl (by with_reducible assumption) | exact news_tl (news_tl (by with_reducible assumption))))
end
structure LETC (c : Str) : Prop where
  n : (c == Str.ofString "\n") = false
  l : 0 < c.length ∧ c.length < 2 ^ 62
  w : (Builtin.Str.occurrences (Str.ofString " \t\r\n") c 0 (Str.length (Str.ofString " \t\r\n")) 1).isEmpty = true
  h : (Builtin.Str.occurrences (Str.ofString "#") c 0 (Str.length (Str.ofString "#")) 1).isEmpty = true
  q : (Builtin.Str.occurrences (Str.ofString "'\"") c 0 (Str.length (Str.ofString "'\"")) 1).isEmpty = true
  e : (Builtin.Str.occurrences (Str.ofString "\\") c 0 (Str.length (Str.ofString "\\")) 1).isEmpty = true
  k : (Builtin.Str.occurrences wordC c 0 (Str.length wordC) 1).isEmpty = false
inductive RtTurn (b : Str) : Str → Str → Bool → Int → Str → Str → Bool → Int → Prop
  | q_other {tk q p c} : chAt b p = c → (c == Str.ofString "'") = false → (c == Str.ofString "\n") = false ∨ c = Str.ofString "\n" → (Builtin.Str.occurrences (Str.ofString "\\") c 0 (Str.ofString "\\").length 1).isEmpty = true → (0 < c.length ∧ c.length < 2 ^ 62) → tk.length + c.length ≤ sizeLine →
      RtTurn b (Str.ofString "'") tk q p (Str.ofString "'") (tk ++ c) true (p + 1)
  | q_back {tk q p} : chAt b p = Str.ofString "\\" → tk.length + 1 ≤ sizeLine → RtTurn b (Str.ofString "'") tk q p (Str.ofString "'") (tk ++ Str.ofString "\\") true (p + 1)
  | q_quote {tk q p} : chAt b p = Str.ofString "'" → RtTurn b (Str.ofString "'") tk q p (Str.ofString "a") tk true (p + 1)
  | d_quote {tk q p} : chAt b p = Str.ofString "'" → tk.length + 1 ≤ sizeLine → RtTurn b (Str.ofString "\"") tk q p (Str.ofString "\"") (tk ++ Str.ofString "'") true (p + 1)
  | d_close {tk q p} : chAt b p = Str.ofString "\"" → RtTurn b (Str.ofString "\"") tk q p (Str.ofString "a") tk true (p + 1)
  | a_letter {tk q p c} : chAt b p = c → LETC c → tk.length + c.length ≤ sizeLine → RtTurn b (Str.ofString "a") tk q p (Str.ofString "a") (tk ++ c) q (p + 1)
  | a_quote {tk q p} : chAt b p = Str.ofString "'" → RtTurn b (Str.ofString "a") tk q p (Str.ofString "'") tk q (p + 1)
  | a_dquote {tk q p} : chAt b p = Str.ofString "\"" → RtTurn b (Str.ofString "a") tk q p (Str.ofString "\"") tk q (p + 1)
  | s_letter {tk q p c} : chAt b p = c → LETC c → RtTurn b (Str.ofString " ") tk q p (Str.ofString "a") c q (p + 1)
  | s_space {tk p} : chAt b p = Str.ofString " " → tk.length < 2 ^ 62 → ((tk.length : Int) != 0) = false → RtTurn b (Str.ofString " ") tk false p (Str.ofString " ") tk false (p + 1)
  | s_quote {tk q p} : chAt b p = Str.ofString "'" → RtTurn b (Str.ofString " ") tk q p (Str.ofString "'") tk q (p + 1)
  | s_hash {tk q p} : chAt b p = Str.ofString "#" → find4 b (Str.ofString "\n") (p + 1) b.length = -1 → RtTurn b (Str.ofString " ") tk q p (Str.ofString " ") tk q b.length
theorem rt_turn : Wants PySem.Challenge.rw_in0077_01 Mine.K → ∀ (prog : Program) (w : World) (oc : Value) (od : Option Addr) (osl : Array (Option Value)) (name qual : Str) (params : Arguments) (scope : Scope) (dV kV doc pm : Value) (an : Option Addr) (cdv ct : Value) (st1 st2 st4 st5 st6 st7 st8 : Stmt) (test : PySem.Expr) (b1 b2 b3 b4 : Stmt) (orelse : List Stmt) (tpos : Pos),
  (Mine.K w.params).lookup 714 = some ⟨oc, od, .func (fnOf name qual params [st1, st2, .While test [b1, b2, b3, b4] orelse tpos, st4, st5, st6, st7, st8] scope dV kV doc pm an cdv ct), osl⟩ →
  ∀ (p : Program) (loose : List Str) (mean : ExcName → Option Value) (mg mb : Str → Option Value) (dp un : Nat) (gd : Option (List Code)) (cn : Str) (cs : Scope) (L0 a0 : Addr) (ccd : Value) (cl : List (Str × Addr)) (outer : List Env) (base g : Heap) (L : Addr) (s : Shared) (E : Value → Shared → Prop) (Q : Flow → Shared → Prop) (rest : List (Addr × Obj)) (κ τ κs : Nat → Tok) (x d sx sd pb fs : Addr) (b tk : Str) (pos ln : Int) (tb tp tl tt tst : Tok) (es : Value) (q : Bool) (st : Str) (nc : Option Value) (st' tk' : Str) (q' : Bool) (p' : Int), RtTurn b st tk q pos st' tk' q' p' →
  Below (ktrTop dp un gd cn cs L0 a0 ccd cl outer) base (envX cn cs L0 a0 ccd cl :: outer) g → Fr g L s.heap (rtM x nc es q) → (Mine.K w.params).In g → News g L s.heap ((x, instObj 746 d) :: (d, lexD w.params κ τ sx pb fs (.str st tst) ln tl tk tt) :: (sx, instObj 611 sd) :: (sd, sioD w.params κs b pos tb tp) :: rest) → Top p loose mean mg mb g → cs.kind = .function → dp + 6 < recursionLimit → un + 80 < cLine → (∀ q ∈ rest, q.1 ≠ d) → (∀ q ∈ rest, q.1 ≠ sd) → x ≠ d → x ≠ sd → sx ≠ d → sx ≠ sd → d ≠ sd → sd ≠ d →
  0 ≤ pos → pos + 1 < b.length → b.length < 2 ^ 20 → PassesOwn (model prog w) ((ktrTop dp un gd cn cs L0 a0 ccd cl outer).deeper (envOf qual scope L 714 cdv)) (envOf qual scope L 714 cdv) E →
  (∀ (h' : Heap) (tn : Nat) (nc' : Option Value) (ln' : Int) (tl' tt' tst' tp' : Tok), Fr g L h' (rtM x nc' es q') → News g L h' ((x, instObj 746 d) :: (d, lexD w.params κ τ sx pb fs (.str st' tst') ln' tl' tk' tt') :: (sx, instObj 611 sd) :: (sd, sioD w.params κs b p' tb tp') :: rest) → WhlRest prog w ((ktrTop dp un gd cn cs L0 a0 ccd cl outer).deeper (envOf qual scope L 714 cdv)) E (envOf qual scope L 714 cdv) test [b1, b2, b3, b4] orelse Q 0 { s with heap := h', toks := tn }) →
  WhlRest prog w ((ktrTop dp un gd cn cs L0 a0 ccd cl outer).deeper (envOf qual scope L 714 cdv)) E (envOf qual scope L 714 cdv) test [b1, b2, b3, b4] orelse Q 1 s := by
  intro _ prog w oc od osl name qual params scope dV kV doc pm an cdv ct st1 st2 st4 st5 st6 st7 st8 test b1 b2 b3 b4 orelse tpos hK p loose mean mg mb dp un gd cn cs L0 a0 ccd cl outer base g L s E Q rest κ τ κs x d sx sd pb fs b tk pos ln tb tp tl tt tst es q st nc st' tkn q' p' hT
  induction hT with
  | q_other hc a1 a2 a3 a4 a5 =>
    intro B F X N T hk hd hu hr1 hr2 n1 n2 n3 n4 n5 n6 h0 h1 hb hE again
    rcases a2 with hn1 | rfl
    · refine rt_pre trivial _ _ _ _ _ _ _ _ _ _ _ _ _ _ _ _ _ _ _ _ _ _ _ _ _ _ _ _ _ _ hK _ _ _ _ _ _ _ _ _ _ _ _ _ _ _ _ _ _ _ _ _ _ _ _ _ _ _ _ _ _ _ _ _ _ _ _ _ _ _ 0 _ _ _ _ _ B F X N T hk hd hu hr1 hr2 n1 n2 n3 n4 n5 n6 hc h0 h1 hb hn1 hE fun h' tk' t' tp' F' N' => ?_
      exact rt_q_other trivial _ _ _ _ _ _ _ _ _ _ _ _ _ _ _ _ _ _ _ _ _ _ _ _ _ _ _ _ _ _ hK _ _ _ _ _ _ _ _ _ _ _ _ _ _ _ _ _ _ _ _ _ _ _ _ _ _ _ _ _ _ _ _ _ _ _ _ _ _ _ _ _ _ _ _ B F' X N' T hk hd hu hr1 hr2 n1 n2 n3 n4 n5 n6 a1 a3 a4 a5 hE (fun h'' tk'' tt'' tst'' F'' N'' => again _ _ _ _ _ _ _ _ F'' N'')
    · refine rt_pre_nl trivial _ _ _ _ _ _ _ _ _ _ _ _ _ _ _ _ _ _ _ _ _ _ _ _ _ _ _ _ _ _ hK _ _ _ _ _ _ _ _ _ _ _ _ _ _ _ _ _ _ _ _ _ _ _ _ _ _ _ _ _ _ _ _ _ _ _ _ _ _ _ 0 _ _ _ _ B F X N T hk hd hu hr1 hr2 n1 n2 n3 n4 n5 n6 hc h0 h1 hb hE fun h' tk' t' tp' tl' F' N' => ?_
      exact rt_q_other trivial _ _ _ _ _ _ _ _ _ _ _ _ _ _ _ _ _ _ _ _ _ _ _ _ _ _ _ _ _ _ hK _ _ _ _ _ _ _ _ _ _ _ _ _ _ _ _ _ _ _ _ _ _ _ _ _ _ _ _ _ _ _ _ _ _ _ _ _ _ _ _ _ _ _ _ B F' X N' T hk hd hu hr1 hr2 n1 n2 n3 n4 n5 n6 a1 a3 a4 a5 hE (fun h'' tk'' tt'' tst'' F'' N'' => again _ _ _ _ _ _ _ _ F'' N'')
  | q_back hc a5 =>
    intro B F X N T hk hd hu hr1 hr2 n1 n2 n3 n4 n5 n6 h0 h1 hb hE again
    have hn1 : (Str.ofString "\\" == Str.ofString "\n") = false := by decide +kernel
    refine rt_pre trivial _ _ _ _ _ _ _ _ _ _ _ _ _ _ _ _ _ _ _ _ _ _ _ _ _ _ _ _ _ _ hK _ _ _ _ _ _ _ _ _ _ _ _ _ _ _ _ _ _ _ _ _ _ _ _ _ _ _ _ _ _ _ _ _ _ _ _ _ _ _ 0 _ _ _ _ _ B F X N T hk hd hu hr1 hr2 n1 n2 n3 n4 n5 n6 hc h0 h1 hb hn1 hE fun h' tk' t' tp' F' N' => ?_
    exact rt_q_back trivial _ _ _ _ _ _ _ _ _ _ _ _ _ _ _ _ _ _ _ _ _ _ _ _ _ _ _ _ _ _ hK _ _ _ _ _ _ _ _ _ _ _ _ _ _ _ _ _ _ _ _ _ _ _ _ _ _ _ _ _ _ _ _ _ _ _ _ _ _ _ _ _ _ _ B F' X N' T hk hd hu hr1 hr2 n1 n2 n3 n4 n5 n6 a5 hE (fun h'' tk'' tt'' tst'' F'' N'' => again _ _ _ _ _ _ _ _ F'' N'')
  | q_quote hc =>
    intro B F X N T hk hd hu hr1 hr2 n1 n2 n3 n4 n5 n6 h0 h1 hb hE again
    have hn1 : (Str.ofString "'" == Str.ofString "\n") = false := by decide +kernel
    refine rt_pre trivial _ _ _ _ _ _ _ _ _ _ _ _ _ _ _ _ _ _ _ _ _ _ _ _ _ _ _ _ _ _ hK _ _ _ _ _ _ _ _ _ _ _ _ _ _ _ _ _ _ _ _ _ _ _ _ _ _ _ _ _ _ _ _ _ _ _ _ _ _ _ 0 _ _ _ _ _ B F X N T hk hd hu hr1 hr2 n1 n2 n3 n4 n5 n6 hc h0 h1 hb hn1 hE fun h' tk' t' tp' F' N' => ?_
    exact rt_q_quote trivial _ _ _ _ _ _ _ _ _ _ _ _ _ _ _ _ _ _ _ _ _ _ _ _ _ _ _ _ _ _ hK _ _ _ _ _ _ _ _ _ _ _ _ _ _ _ _ _ _ _ _ _ _ _ _ _ _ _ _ _ _ _ _ _ _ _ _ _ _ _ _ _ _ _ B F' X N' T hk hd hu hr1 hr2 n1 n2 n3 n4 n5 n6 hE (fun h'' tk'' tt'' tst'' F'' N'' => again _ _ _ _ _ _ _ _ F'' N'')
  | d_quote hc a5 =>
    intro B F X N T hk hd hu hr1 hr2 n1 n2 n3 n4 n5 n6 h0 h1 hb hE again
    have hn1 : (Str.ofString "'" == Str.ofString "\n") = false := by decide +kernel
    refine rt_pre trivial _ _ _ _ _ _ _ _ _ _ _ _ _ _ _ _ _ _ _ _ _ _ _ _ _ _ _ _ _ _ hK _ _ _ _ _ _ _ _ _ _ _ _ _ _ _ _ _ _ _ _ _ _ _ _ _ _ _ _ _ _ _ _ _ _ _ _ _ _ _ 0 _ _ _ _ _ B F X N T hk hd hu hr1 hr2 n1 n2 n3 n4 n5 n6 hc h0 h1 hb hn1 hE fun h' tk' t' tp' F' N' => ?_
    exact rt_d_quote trivial _ _ _ _ _ _ _ _ _ _ _ _ _ _ _ _ _ _ _ _ _ _ _ _ _ _ _ _ _ _ hK _ _ _ _ _ _ _ _ _ _ _ _ _ _ _ _ _ _ _ _ _ _ _ _ _ _ _ _ _ _ _ _ _ _ _ _ _ _ _ _ _ _ _ B F' X N' T hk hd hu hr1 hr2 n1 n2 n3 n4 n5 n6 a5 hE (fun h'' tk'' tt'' tst'' F'' N'' => again _ _ _ _ _ _ _ _ F'' N'')
  | d_close hc =>
    intro B F X N T hk hd hu hr1 hr2 n1 n2 n3 n4 n5 n6 h0 h1 hb hE again
    have hn1 : (Str.ofString "\"" == Str.ofString "\n") = false := by decide +kernel
    refine rt_pre trivial _ _ _ _ _ _ _ _ _ _ _ _ _ _ _ _ _ _ _ _ _ _ _ _ _ _ _ _ _ _ hK _ _ _ _ _ _ _ _ _ _ _ _ _ _ _ _ _ _ _ _ _ _ _ _ _ _ _ _ _ _ _ _ _ _ _ _ _ _ _ 0 _ _ _ _ _ B F X N T hk hd hu hr1 hr2 n1 n2 n3 n4 n5 n6 hc h0 h1 hb hn1 hE fun h' tk' t' tp' F' N' => ?_
    exact rt_d_close trivial _ _ _ _ _ _ _ _ _ _ _ _ _ _ _ _ _ _ _ _ _ _ _ _ _ _ _ _ _ _ hK _ _ _ _ _ _ _ _ _ _ _ _ _ _ _ _ _ _ _ _ _ _ _ _ _ _ _ _ _ _ _ _ _ _ _ _ _ _ _ _ _ _ _ B F' X N' T hk hd hu hr1 hr2 n1 n2 n3 n4 n5 n6 hE (fun h'' tk'' tt'' tst'' F'' N'' => again _ _ _ _ _ _ _ _ F'' N'')
  | a_letter hc a a5 =>
    intro B F X N T hk hd hu hr1 hr2 n1 n2 n3 n4 n5 n6 h0 h1 hb hE again
    have hn1 := a.n
    refine rt_pre trivial _ _ _ _ _ _ _ _ _ _ _ _ _ _ _ _ _ _ _ _ _ _ _ _ _ _ _ _ _ _ hK _ _ _ _ _ _ _ _ _ _ _ _ _ _ _ _ _ _ _ _ _ _ _ _ _ _ _ _ _ _ _ _ _ _ _ _ _ _ _ 0 _ _ _ _ _ B F X N T hk hd hu hr1 hr2 n1 n2 n3 n4 n5 n6 hc h0 h1 hb hn1 hE fun h' tk' t' tp' F' N' => ?_
    exact rt_a_letter trivial _ _ _ _ _ _ _ _ _ _ _ _ _ _ _ _ _ _ _ _ _ _ _ _ _ _ _ _ _ _ hK _ _ _ _ _ _ _ _ _ _ _ _ _ _ _ _ _ _ _ _ _ _ _ _ _ _ _ _ _ _ _ _ _ _ _ _ _ _ _ _ _ _ _ _ B F' X N' T hk hd hu hr1 hr2 n1 n2 n3 n4 n5 n6 a.n a.l a.w a.h a.q a.e a.k a5 hE (fun h'' tk'' tt'' tst'' F'' N'' => again _ _ _ _ _ _ _ _ F'' N'')
  | a_quote hc =>
    intro B F X N T hk hd hu hr1 hr2 n1 n2 n3 n4 n5 n6 h0 h1 hb hE again
    have hn1 : (Str.ofString "'" == Str.ofString "\n") = false := by decide +kernel
    refine rt_pre trivial _ _ _ _ _ _ _ _ _ _ _ _ _ _ _ _ _ _ _ _ _ _ _ _ _ _ _ _ _ _ hK _ _ _ _ _ _ _ _ _ _ _ _ _ _ _ _ _ _ _ _ _ _ _ _ _ _ _ _ _ _ _ _ _ _ _ _ _ _ _ 0 _ _ _ _ _ B F X N T hk hd hu hr1 hr2 n1 n2 n3 n4 n5 n6 hc h0 h1 hb hn1 hE fun h' tk' t' tp' F' N' => ?_
    exact rt_a_quote trivial _ _ _ _ _ _ _ _ _ _ _ _ _ _ _ _ _ _ _ _ _ _ _ _ _ _ _ _ _ _ hK _ _ _ _ _ _ _ _ _ _ _ _ _ _ _ _ _ _ _ _ _ _ _ _ _ _ _ _ _ _ _ _ _ _ _ _ _ _ _ _ _ _ _ B F' X N' T hk hd hu hr1 hr2 n1 n2 n3 n4 n5 n6 hE (fun h'' tk'' tt'' tst'' F'' N'' => again _ _ _ _ _ _ _ _ F'' N'')
  | a_dquote hc =>
    intro B F X N T hk hd hu hr1 hr2 n1 n2 n3 n4 n5 n6 h0 h1 hb hE again
    have hn1 : (Str.ofString "\"" == Str.ofString "\n") = false := by decide +kernel
    refine rt_pre trivial _ _ _ _ _ _ _ _ _ _ _ _ _ _ _ _ _ _ _ _ _ _ _ _ _ _ _ _ _ _ hK _ _ _ _ _ _ _ _ _ _ _ _ _ _ _ _ _ _ _ _ _ _ _ _ _ _ _ _ _ _ _ _ _ _ _ _ _ _ _ 0 _ _ _ _ _ B F X N T hk hd hu hr1 hr2 n1 n2 n3 n4 n5 n6 hc h0 h1 hb hn1 hE fun h' tk' t' tp' F' N' => ?_
    exact rt_a_dquote trivial _ _ _ _ _ _ _ _ _ _ _ _ _ _ _ _ _ _ _ _ _ _ _ _ _ _ _ _ _ _ hK _ _ _ _ _ _ _ _ _ _ _ _ _ _ _ _ _ _ _ _ _ _ _ _ _ _ _ _ _ _ _ _ _ _ _ _ _ _ _ _ _ _ _ B F' X N' T hk hd hu hr1 hr2 n1 n2 n3 n4 n5 n6 hE (fun h'' tk'' tt'' tst'' F'' N'' => again _ _ _ _ _ _ _ _ F'' N'')
  | s_letter hc a =>
    intro B F X N T hk hd hu hr1 hr2 n1 n2 n3 n4 n5 n6 h0 h1 hb hE again
    have hn1 := a.n
    refine rt_pre trivial _ _ _ _ _ _ _ _ _ _ _ _ _ _ _ _ _ _ _ _ _ _ _ _ _ _ _ _ _ _ hK _ _ _ _ _ _ _ _ _ _ _ _ _ _ _ _ _ _ _ _ _ _ _ _ _ _ _ _ _ _ _ _ _ _ _ _ _ _ _ 0 _ _ _ _ _ B F X N T hk hd hu hr1 hr2 n1 n2 n3 n4 n5 n6 hc h0 h1 hb hn1 hE fun h' tk' t' tp' F' N' => ?_
    exact rt_s_letter trivial _ _ _ _ _ _ _ _ _ _ _ _ _ _ _ _ _ _ _ _ _ _ _ _ _ _ _ _ _ _ hK _ _ _ _ _ _ _ _ _ _ _ _ _ _ _ _ _ _ _ _ _ _ _ _ _ _ _ _ _ _ _ _ _ _ _ _ _ _ _ _ _ _ _ _ B F' X N' T hk hd hu hr1 hr2 n1 n2 n3 n4 n5 n6 a.n a.l a.w a.h a.e a.k hE (fun h'' tk'' tt'' tst'' F'' N'' => again _ _ _ _ _ _ _ _ F'' N'')
  | s_space hc a1 a2 =>
    intro B F X N T hk hd hu hr1 hr2 n1 n2 n3 n4 n5 n6 h0 h1 hb hE again
    have hn1 : (Str.ofString " " == Str.ofString "\n") = false := by decide +kernel
    refine rt_pre trivial _ _ _ _ _ _ _ _ _ _ _ _ _ _ _ _ _ _ _ _ _ _ _ _ _ _ _ _ _ _ hK _ _ _ _ _ _ _ _ _ _ _ _ _ _ _ _ _ _ _ _ _ _ _ _ _ _ _ _ _ _ _ _ _ _ _ _ _ _ _ 0 _ _ _ _ _ B F X N T hk hd hu hr1 hr2 n1 n2 n3 n4 n5 n6 hc h0 h1 hb hn1 hE fun h' tk' t' tp' F' N' => ?_
    exact rt_s_space trivial _ _ _ _ _ _ _ _ _ _ _ _ _ _ _ _ _ _ _ _ _ _ _ _ _ _ _ _ _ _ hK _ _ _ _ _ _ _ _ _ _ _ _ _ _ _ _ _ _ _ _ _ _ _ _ _ _ _ _ _ _ _ _ _ _ _ _ _ _ _ _ _ _ _ B F' X N' T hk hd hu hr1 hr2 n1 n2 n3 n4 n5 n6 a1 a2 rfl hE (fun h'' tk'' tt'' tst'' F'' N'' => again _ _ _ _ _ _ _ _ F'' N'')
  | s_quote hc =>
    intro B F X N T hk hd hu hr1 hr2 n1 n2 n3 n4 n5 n6 h0 h1 hb hE again
    have hn1 : (Str.ofString "'" == Str.ofString "\n") = false := by decide +kernel
    refine rt_pre trivial _ _ _ _ _ _ _ _ _ _ _ _ _ _ _ _ _ _ _ _ _ _ _ _ _ _ _ _ _ _ hK _ _ _ _ _ _ _ _ _ _ _ _ _ _ _ _ _ _ _ _ _ _ _ _ _ _ _ _ _ _ _ _ _ _ _ _ _ _ _ 0 _ _ _ _ _ B F X N T hk hd hu hr1 hr2 n1 n2 n3 n4 n5 n6 hc h0 h1 hb hn1 hE fun h' tk' t' tp' F' N' => ?_
    exact rt_s_quote trivial _ _ _ _ _ _ _ _ _ _ _ _ _ _ _ _ _ _ _ _ _ _ _ _ _ _ _ _ _ _ hK _ _ _ _ _ _ _ _ _ _ _ _ _ _ _ _ _ _ _ _ _ _ _ _ _ _ _ _ _ _ _ _ _ _ _ _ _ _ _ _ _ _ _ B F' X N' T hk hd hu hr1 hr2 n1 n2 n3 n4 n5 n6 hE (fun h'' tk'' tt'' tst'' F'' N'' => again _ _ _ _ _ _ _ _ F'' N'')
  | s_hash hc a1 =>
    intro B F X N T hk hd hu hr1 hr2 n1 n2 n3 n4 n5 n6 h0 h1 hb hE again
    have hn1 : (Str.ofString "#" == Str.ofString "\n") = false := by decide +kernel
    refine rt_pre trivial _ _ _ _ _ _ _ _ _ _ _ _ _ _ _ _ _ _ _ _ _ _ _ _ _ _ _ _ _ _ hK _ _ _ _ _ _ _ _ _ _ _ _ _ _ _ _ _ _ _ _ _ _ _ _ _ _ _ _ _ _ _ _ _ _ _ _ _ _ _ 0 _ _ _ _ _ B F X N T hk hd hu hr1 hr2 n1 n2 n3 n4 n5 n6 hc h0 h1 hb hn1 hE fun h' tk' t' tp' F' N' => ?_
    exact rt_s_hash trivial _ _ _ _ _ _ _ _ _ _ _ _ _ _ _ _ _ _ _ _ _ _ _ _ _ _ _ _ _ _ hK _ _ _ _ _ _ _ _ _ _ _ _ _ _ _ _ _ _ _ _ _ _ _ _ _ _ _ _ _ _ _ _ _ _ _ _ _ _ _ _ _ _ _ B F' X N' T hk hd hu hr1 hr2 n1 n2 n3 n4 n5 n6 (by omega) (by omega) hb a1 hE (fun h'' tk'' tt'' tst'' tl'' tp'' F'' N'' => again _ _ _ _ _ _ _ _ F'' N'')
end
end
section
inductive RtSteps (b : Str) : Str → Str → Bool → Int → Str → Str → Bool → Int → Prop
  | refl {st tk q p} : RtSteps b st tk q p st tk q p
  | step {st tk q p st1 tk1 q1 p1 st2 tk2 q2 p2} : RtTurn b st tk q p st1 tk1 q1 p1 → 0 ≤ p → p + 1 < b.length → RtSteps b st1 tk1 q1 p1 st2 tk2 q2 p2 → RtSteps b st tk q p st2 tk2 q2 p2
theorem rt_steps : Wants PySem.Challenge.rw_in0077_01 Mine.K → ∀ (prog : Program) (w : World) (oc : Value) (od : Option Addr) (osl : Array (Option Value)) (name qual : Str) (params : Arguments) (scope : Scope) (dV kV doc pm : Value) (an : Option Addr) (cdv ct : Value) (st1 st2 st4 st5 st6 st7 st8 : Stmt) (test : PySem.Expr) (b1 b2 b3 b4 : Stmt) (orelse : List Stmt) (tpos : Pos),
  (Mine.K w.params).lookup 714 = some ⟨oc, od, .func (fnOf name qual params [st1, st2, .While test [b1, b2, b3, b4] orelse tpos, st4, st5, st6, st7, st8] scope dV kV doc pm an cdv ct), osl⟩ →
  ∀ (b : Str) (st tk : Str) (q : Bool) (pos : Int) (st' tk' : Str) (q' : Bool) (p' : Int), RtSteps b st tk q pos st' tk' q' p' →
  ∀ (p : Program) (loose : List Str) (mean : ExcName → Option Value) (mg mb : Str → Option Value) (dp un : Nat) (gd : Option (List Code)) (cn : Str) (cs : Scope) (L0 a0 : Addr) (ccd : Value) (cl : List (Str × Addr)) (outer : List Env) (base g : Heap) (L : Addr) (E : Value → Shared → Prop) (Q : Flow → Shared → Prop) (rest : List (Addr × Obj)) (κ τ κs : Nat → Tok) (x d sx sd pb fs : Addr) (ln : Int) (tb tp tl tt tst : Tok) (es : Value),
  Below (ktrTop dp un gd cn cs L0 a0 ccd cl outer) base (envX cn cs L0 a0 ccd cl :: outer) g → (Mine.K w.params).In g → Top p loose mean mg mb g → cs.kind = .function → dp + 6 < recursionLimit → un + 80 < cLine → (∀ q ∈ rest, q.1 ≠ d) → (∀ q ∈ rest, q.1 ≠ sd) → x ≠ d → x ≠ sd → sx ≠ d → sx ≠ sd → d ≠ sd → sd ≠ d → b.length < 2 ^ 20 → PassesOwn (model prog w) ((ktrTop dp un gd cn cs L0 a0 ccd cl outer).deeper (envOf qual scope L 714 cdv)) (envOf qual scope L 714 cdv) E →
  ∀ (s : Shared) (nc : Option Value), Fr g L s.heap (rtM x nc es q) → News g L s.heap ((x, instObj 746 d) :: (d, lexD w.params κ τ sx pb fs (.str st tst) ln tl tk tt) :: (sx, instObj 611 sd) :: (sd, sioD w.params κs b pos tb tp) :: rest) →
  (∀ (h' : Heap) (tn : Nat) (nc' : Option Value) (ln' : Int) (tl' tt' tst' tp' : Tok), Fr g L h' (rtM x nc' es q') → News g L h' ((x, instObj 746 d) :: (d, lexD w.params κ τ sx pb fs (.str st' tst') ln' tl' tk' tt') :: (sx, instObj 611 sd) :: (sd, sioD w.params κs b p' tb tp') :: rest) → WhlRest prog w ((ktrTop dp un gd cn cs L0 a0 ccd cl outer).deeper (envOf qual scope L 714 cdv)) E (envOf qual scope L 714 cdv) test [b1, b2, b3, b4] orelse Q 0 { s with heap := h', toks := tn }) →
  WhlRest prog w ((ktrTop dp un gd cn cs L0 a0 ccd cl outer).deeper (envOf qual scope L 714 cdv)) E (envOf qual scope L 714 cdv) test [b1, b2, b3, b4] orelse Q 0 s := by
  intro _ prog w oc od osl name qual params scope dV kV doc pm an cdv ct st1 st2 st4 st5 st6 st7 st8 test b1 b2 b3 b4 orelse tpos hK b st tk q pos st' tk' q' p' hS
  induction hS with
  | refl =>
    intro p loose mean mg mb dp un gd cn cs L0 a0 ccd cl outer base g L E Q rest κ τ κs x d sx sd pb fs ln tb tp tl tt tst es B X T hk hd hu hr1 hr2 n1 n2 n3 n4 n5 n6 hb hE s nc F N again
    exact again s.heap s.toks _ _ _ _ _ _ F N
  | step hT h0 h1 _ ih =>
    intro p loose mean mg mb dp un gd cn cs L0 a0 ccd cl outer base g L E Q rest κ τ κs x d sx sd pb fs ln tb tp tl tt tst es B X T hk hd hu hr1 hr2 n1 n2 n3 n4 n5 n6 hb hE s nc F N again
    refine rt_turn trivial _ _ _ _ _ _ _ _ _ _ _ _ _ _ _ _ _ _ _ _ _ _ _ _ _ _ _ _ _ _ hK _ _ _ _ _ _ _ _ _ _ _ _ _ _ _ _ _ _ _ _ _ _ _ _ _ _ _ _ _ _ _ _ _ _ _ _ _ _ _ _ _ _ _ _ _ _ _ _ hT B F X N T hk hd hu hr1 hr2 n1 n2 n3 n4 n5 n6 h0 h1 hb hE fun h' tn nc' ln' tl' tt' tst' tp' F' N' => ?_
    exact ih _ _ _ _ _ _ _ _ _ _ _ _ _ _ _ _ _ _ _ _ _ _ _ _ _ _ _ _ _ _ _ _ _ _ _ _ _ B X T hk hd hu hr1 hr2 n1 n2 n3 n4 n5 n6 hb hE { s with heap := h', toks := tn } nc' F' N' again
local macro_rules | `(tactic| walk_at "exec While") => `(tactic| (refine whl_start 0 ?_; refine stop_here ?_))
theorem x_word : Wants PySem.Challenge.rw_in0077_01 Mine.K → ∀ (prog : Program) (w : World) (oc : Value) (od : Option Addr) (osl : Array (Option Value)) (name qual : Str) (params : Arguments) (scope : Scope) (dV kV doc pm : Value) (an : Option Addr) (cdv ct : Value) (st1 st2 st4 st5 st6 st7 st8 : Stmt) (test : PySem.Expr) (b1 b2 b3 b4 : Stmt) (orelse : List Stmt) (tpos : Pos),
  (Mine.K w.params).lookup 714 = some ⟨oc, od, .func (fnOf name qual params [st1, st2, .While test [b1, b2, b3, b4] orelse tpos, st4, st5, st6, st7, st8] scope dV kV doc pm an cdv ct), osl⟩ →
  ∀ (p : Program) (loose : List Str) (mean : ExcName → Option Value) (mg mb : Str → Option Value) (rest : List (Addr × Obj)) (κ τ κs : Nat → Tok) (x d sx sd pb fs : Addr) (b : Str) (pos ln : Int) (tb tp tl tt tst : Tok) (tk : Str) (q : Bool) (p2 : Int),
  (∀ q ∈ rest, q.1 ≠ d) → (∀ q ∈ rest, q.1 ≠ sd) → x ≠ d → x ≠ sd → sx ≠ d → sx ≠ sd → d ≠ sd → sd ≠ d → RtSteps b (Str.ofString " ") (Str.ofString "") false pos (Str.ofString "a") tk q p2 → chAt b p2 = Str.ofString " " → 0 ≤ p2 → p2 + 1 < b.length → b.length < 2 ^ 20 → tk.length < 2 ^ 62 → ((((tk.length : Int) != 0) = true ∧ (tk == Str.ofString "") = false) ∨ ((((tk.length : Int) != 0) = false) ∧ q = true)) →
  Claim prog w (Mine.K w.params) p loose mean mg mb ((x, instObj 746 d) :: (d, lexD w.params κ τ sx pb fs (.str (Str.ofString " ") tst) ln tl (Str.ofString "") tt) :: (sx, instObj 611 sd) :: (sd, sioD w.params κs b pos tb tp) :: rest) 7 100 (call (.ref 714) [.ref x])
    (fun v news' => ∃ (t tp' tl' tt' tst' : Tok) (ln' : Int), v = .str tk t ∧ news' = ((x, instObj 746 d) :: (d, lexD w.params κ τ sx pb fs (.str (Str.ofString " ") tst') ln' tl' (Str.ofString "") tt') :: (sx, instObj 611 sd) :: (sd, sioD w.params κs b (p2 + 1) tb tp') :: rest)) := by
  k_fill
  intro _ prog w oc od osl name qual params scope dV kV doc pm an cdv ct st1 st2 st4 st5 st6 st7 st8 test b1 b2 b3 b4 orelse tpos hK
  clear hK
  refine' with_fn (K := Mine.K w.params) (f := 714) ?h ?_
  case h => walk_at "Mine.KN"
  intro hK
  intro p loose mean mg mb rest κ τ κs x d sx sd pb fs b pos ln tb tp tl tt tst tk q p2 hr1 hr2 n1 n2 n3 n4 n5 n6 hS hc hp0 hp1 hb ht1 ht3 dp un gd cn cs a ccd cl outer A₀ base h₀ L m s Q E B F X N T hk hd hu hret
  dsimp only [lexD] at N
  refine fold1 N ?_
  clear N
  intro es9 N
  rcases ht3 with ⟨ht2, ht4⟩ | ⟨ht2, rfl⟩
  · walk_at "ENTER"
    k_steps
    refine' rt_steps trivial _ _ _ _ _ _ _ _ _ _ _ _ _ _ _ _ _ _ _ _ _ _ _ _ _ _ _ _ _ _ hK _ _ _ _ _ _ _ _ _ hS _ _ _ _ _ _ _ _ _ _ _ _ _ _ _ _ _ _ _ _ _ _ _ _ _ _ _ _ _ _ _ _ _ _ _ _ _ ?cBp ?cXp ?cTp hk ?cdp ?cup hr1 hr2 n1 n2 n3 n4 n5 n6 hb ?hEp _ _ ?cFp ?cNp ?againp
    case cFp => (refine' fr_eq (by with_reducible assumption) ?_; with_unfolding_all exact rtM_0 (x := x) (q := false))
    case cNp => k_asm
    case cBp => k_asm
    case cXp => k_asm
    case cTp => k_asm
    case cdp => omega
    case cup => omega
    case hEp => k_steps
    case againp =>
      intro h9 tn9 nc9 ln9 tl9 tt9 tst9 tp9 F9 N9
      have hn1 : (Str.ofString " " == Str.ofString "\n") = false := by decide +kernel
      refine' rt_pre trivial _ _ _ _ _ _ _ _ _ _ _ _ _ _ _ _ _ _ _ _ _ _ _ _ _ _ _ _ _ _ hK _ _ _ _ _ _ _ _ _ _ _ _ _ _ _ _ _ _ _ _ _ _ _ _ _ _ _ _ _ _ _ _ _ _ _ _ _ _ _ 0 _ _ _ _ _ ?dcBp F9 ?dcXp N9 ?dcTp hk ?dcdp ?dcup hr1 hr2 n1 n2 n3 n4 n5 n6 hc hp0 hp1 hb hn1 ?dhEp ?dgop
      case dcBp => k_asm
      case dcXp => k_asm
      case dcTp => k_asm
      case dcdp => omega
      case dcup => omega
      case dhEp => k_steps
      intro h8 tk8 t8 tp8 F8 N8
      refine' rt_a_space trivial _ _ _ _ _ _ _ _ _ _ _ _ _ _ _ _ _ _ _ _ _ _ _ _ _ _ _ _ _ _ hK _ _ _ _ _ _ _ _ _ _ _ _ _ _ _ _ _ _ _ _ _ _ _ _ _ _ _ _ _ _ _ _ _ _ _ _ _ _ _ _ _ _ _ ?ecBp F8 ?ecXp N8 ?ecTp hk ?ecdp ?ecup hr1 hr2 n1 n2 n3 n4 n5 n6 ht1 ht2 ?ehEp ?egop
      case ecBp => k_asm
      case ecXp => k_asm
      case ecTp => k_asm
      case ecdp => omega
      case ecup => omega
      try (case ehEp => k_steps)
      intro h7 tk7 tt7 tst7 F7 N7
      dsimp only [sioD, lexD] at N7
      k_steps
      all_goals (refine' hret _ _ _ _ ?o1p ?f1p ?n1p; (case f1p => k_asm); (case n1p => k_asm); (case o1p => exact ⟨_, _, _, _, _, _, rfl, rfl⟩))
  · walk_at "ENTER"
    k_steps
    refine' rt_steps trivial _ _ _ _ _ _ _ _ _ _ _ _ _ _ _ _ _ _ _ _ _ _ _ _ _ _ _ _ _ _ hK _ _ _ _ _ _ _ _ _ hS _ _ _ _ _ _ _ _ _ _ _ _ _ _ _ _ _ _ _ _ _ _ _ _ _ _ _ _ _ _ _ _ _ _ _ _ _ ?cBr ?cXr ?cTr hk ?cdr ?cur hr1 hr2 n1 n2 n3 n4 n5 n6 hb ?hEr _ _ ?cFr ?cNr ?againr
    case cFr => (refine' fr_eq (by with_reducible assumption) ?_; with_unfolding_all exact rtM_0 (x := x) (q := false))
    case cNr => k_asm
    case cBr => k_asm
    case cXr => k_asm
    case cTr => k_asm
    case cdr => omega
    case cur => omega
    case hEr => k_steps
    case againr =>
      intro h9 tn9 nc9 ln9 tl9 tt9 tst9 tp9 F9 N9
      have hn1 : (Str.ofString " " == Str.ofString "\n") = false := by decide +kernel
      refine' rt_pre trivial _ _ _ _ _ _ _ _ _ _ _ _ _ _ _ _ _ _ _ _ _ _ _ _ _ _ _ _ _ _ hK _ _ _ _ _ _ _ _ _ _ _ _ _ _ _ _ _ _ _ _ _ _ _ _ _ _ _ _ _ _ _ _ _ _ _ _ _ _ _ 0 _ _ _ _ _ ?dcBr F9 ?dcXr N9 ?dcTr hk ?dcdr ?dcur hr1 hr2 n1 n2 n3 n4 n5 n6 hc hp0 hp1 hb hn1 ?dhEr ?dgor
      case dcBr => k_asm
      case dcXr => k_asm
      case dcTr => k_asm
      case dcdr => omega
      case dcur => omega
      case dhEr => k_steps
      intro h8 tk8 t8 tp8 F8 N8
      refine' rt_a_space_q trivial _ _ _ _ _ _ _ _ _ _ _ _ _ _ _ _ _ _ _ _ _ _ _ _ _ _ _ _ _ _ hK _ _ _ _ _ _ _ _ _ _ _ _ _ _ _ _ _ _ _ _ _ _ _ _ _ _ _ _ _ _ _ _ _ _ _ _ _ _ _ _ _ _ _ ?ecBr F8 ?ecXr N8 ?ecTr hk ?ecdr ?ecur hr1 hr2 n1 n2 n3 n4 n5 n6 ht1 ht2 rfl ?ehEr ?egor
      case ecBr => k_asm
      case ecXr => k_asm
      case ecTr => k_asm
      case ecdr => omega
      case ecur => omega
      try (case ehEr => k_steps)
      intro h7 tk7 tt7 tst7 F7 N7
      dsimp only [sioD, lexD] at N7
      k_steps
      all_goals (refine' hret _ _ _ _ ?o1r ?f1r ?n1r; (case f1r => k_asm); (case n1r => k_asm); (case o1r => exact ⟨_, _, _, _, _, _, rfl, rfl⟩))
end
section
local macro_rules | `(tactic| walk_at "pad") => `(tactic| skip)
local macro_rules | `(tactic| walk_at "exec While") => `(tactic| (refine whl_start 0 ?_; refine stop_here ?_))
theorem x_none : Wants PySem.Challenge.rw_in0077_01 Mine.K → ∀ (prog : Program) (w : World) (oc : Value) (od : Option Addr) (osl : Array (Option Value)) (name qual : Str) (params : Arguments) (scope : Scope) (dV kV doc pm : Value) (an : Option Addr) (cdv ct : Value) (st1 st2 st4 st5 st6 st7 st8 : Stmt) (test : PySem.Expr) (b1 b2 b3 b4 : Stmt) (orelse : List Stmt) (tpos : Pos),
  (Mine.K w.params).lookup 714 = some ⟨oc, od, .func (fnOf name qual params [st1, st2, .While test [b1, b2, b3, b4] orelse tpos, st4, st5, st6, st7, st8] scope dV kV doc pm an cdv ct), osl⟩ →
  ∀ (p : Program) (loose : List Str) (mean : ExcName → Option Value) (mg mb : Str → Option Value) (rest : List (Addr × Obj)) (κ τ κs : Nat → Tok) (x d sx sd pb fs : Addr) (b : Str) (pos ln : Int) (tb tp tl tt tst : Tok),
  (∀ q ∈ rest, q.1 ≠ d) → (∀ q ∈ rest, q.1 ≠ sd) → x ≠ d → x ≠ sd → sx ≠ d → sx ≠ sd → d ≠ sd → sd ≠ d → RtSteps b (Str.ofString " ") (Str.ofString "") false pos (Str.ofString " ") (Str.ofString "") false b.length → b.length < 2 ^ 20 →
  Claim prog w (Mine.K w.params) p loose mean mg mb ((x, instObj 746 d) :: (d, lexD w.params κ τ sx pb fs (.str (Str.ofString " ") tst) ln tl (Str.ofString "") tt) :: (sx, instObj 611 sd) :: (sd, sioD w.params κs b pos tb tp) :: rest) 7 100 (call (.ref 714) [.ref x])
    (fun v news' => ∃ (tp' tl' tt' : Tok) (ln' : Int), v = .none ∧ news' = ((x, instObj 746 d) :: (d, lexD w.params κ τ sx pb fs .none ln' tl' (Str.ofString "") tt') :: (sx, instObj 611 sd) :: (sd, sioD w.params κs b b.length tb tp') :: rest)) := by
  k_fill
  intro _ prog w oc od osl name qual params scope dV kV doc pm an cdv ct st1 st2 st4 st5 st6 st7 st8 test b1 b2 b3 b4 orelse tpos hK
  clear hK
  refine' with_fn (K := Mine.K w.params) (f := 714) ?h ?_
  case h => walk_at "Mine.KN"
  intro hK
  intro p loose mean mg mb rest κ τ κs x d sx sd pb fs b pos ln tb tp tl tt tst hr1 hr2 n1 n2 n3 n4 n5 n6 hS hb dp un gd cn cs a ccd cl outer A₀ base h₀ L m s Q E B F X N T hk hd hu hret
  dsimp only [lexD] at N
  refine fold1 N ?_
  clear N
  intro es9 N
  walk_at "ENTER"
  k_steps
  refine' rt_steps trivial _ _ _ _ _ _ _ _ _ _ _ _ _ _ _ _ _ _ _ _ _ _ _ _ _ _ _ _ _ _ hK _ _ _ _ _ _ _ _ _ hS _ _ _ _ _ _ _ _ _ _ _ _ _ _ _ _ _ _ _ _ _ _ _ _ _ _ _ _ _ _ _ _ _ _ _ _ _ ?cB ?cX ?cT hk ?cd ?cu hr1 hr2 n1 n2 n3 n4 n5 n6 hb ?hE _ _ ?cF ?cN ?again
  case cF => (refine' fr_eq (by with_reducible assumption) ?_; with_unfolding_all exact rtM_0 (x := x) (q := false))
  case cN => k_asm
  case cB => k_asm
  case cX => k_asm
  case cT => k_asm
  case cd => omega
  case cu => omega
  case hE => k_steps
  case again =>
    intro h9 tn9 nc9 ln9 tl9 tt9 tst9 tp9 F9 N9
    refine' rt_pre_end trivial _ _ _ _ _ _ _ _ _ _ _ _ _ _ _ _ _ _ _ _ _ _ _ _ _ _ _ _ _ _ hK _ _ _ _ _ _ _ _ _ _ _ _ _ _ _ _ _ _ _ _ _ _ _ _ _ _ _ _ _ _ _ _ _ _ _ _ _ _ _ 0 _ _ _ _ ?dcB F9 ?dcX N9 ?dcT hk ?dcd ?dcu hr1 hr2 n1 n2 n3 n4 n5 n6 rfl hb ?dhE ?dgo
    case dcB => k_asm
    case dcX => k_asm
    case dcT => k_asm
    case dcd => omega
    case dcu => omega
    case dhE => k_steps
    intro h8 tk8 t8 F8 N8
    refine' rt_s_end trivial _ _ _ _ _ _ _ _ _ _ _ _ _ _ _ _ _ _ _ _ _ _ _ _ _ _ _ _ _ _ hK _ _ _ _ _ _ _ _ _ _ _ _ _ _ _ _ _ _ _ _ _ _ _ _ _ _ _ _ _ _ _ _ _ _ _ _ _ _ _ _ _ _ _ ?ecB F8 ?ecX N8 ?ecT hk ?ecd ?ecu hr1 hr2 n1 n2 n3 n4 n5 n6 ?ehE ?ego
    case ecB => k_asm
    case ecX => k_asm
    case ecT => k_asm
    case ecd => omega
    case ecu => omega
    case ehE => k_steps
    intro h7 tk7 tt7 tst7 F7 N7
    dsimp only [sioD, lexD] at N7
    k_steps
    all_goals (refine' hret _ _ _ _ ?o1 ?f1 ?n1; (case f1 => k_asm); (case n1 => k_asm); (case o1 => exact ⟨_, _, _, _, rfl, rfl⟩))
end
noncomputable abbrev dqObj (n : Int) : Obj := { cls := .type "collections.deque", data := .fields #[.none, .int n 0] }
theorem dq_slot_len : Slot "collections.deque" "__len__" "collections.deque.__len__" :=
  .of (owner := "collections.deque") (n := "__len__") (by rw [typeLookup_type, builtinLookup_eq_fast]; kernel_rfl) (by decide +kernel) (by decide +kernel) (by decide +kernel)
    (by first | exact .inl (by decide +kernel) | exact .inr (by decide +kernel)) (by rw [isSubtype_type]; kernel_rfl)
theorem dq_entry_len : entryFor table "collections.deque.__len__" = some Builtin.«collections.deque.__len__» := entryFor_of_tree (by kernel_rfl)
theorem dq_args_len (a : Value) : argsOk "collections.deque.__len__" ⟨[a], []⟩ := by unfold argsOk; kernel_rfl
theorem dq_noBool : typeLookup (.type "collections.deque") "__bool__" = pure none := by rw [typeLookup_type, builtinLookup_eq_fast]; kernel_rfl
section
variable {prog : Program} {w : World} {A : Around} {E : Value → Shared → Prop} {s : Shared}
theorem dq_typeIs {l : Addr} {n : Int} (ho : s.heap.get? l = some (dqObj n)) : s.TypeIs (.ref l) "collections.deque" := ⟨_, ho, rfl⟩
theorem truthy_dq {l : Addr} {n : Int} {Q : Bool → Shared → Prop} (ho : s.heap.get? l = some (dqObj n)) (h : Q false { s with toks := s.toks + 1 + 1 }) : wpAny (model prog w) A (truthy (.ref l)) Q E s := by
  have hT := dq_typeIs ho
  have body : ∀ A : Around, wpAny (model prog w) A (Builtin.«len» ⟨[.ref l], []⟩) (fun fin s' => ∃ r, fin = .done (.ret r) ∧ r = .int 0 (s.toks + 1) ∧ Q false s') E s := by
    intro A
    unfold Builtin.«len»
    refine wpAny_bind (m := oneArg "len" _) (wpAny_pure ?_)
    refine wpAny_bind (m := callSpecial? (.ref l) (Str.ofString "__len__")) (wpAny_callSpecial?_slot (name := Str.ofString "__len__") hT dq_slot_len
      (wpAny_call_entry dq_slot_len hT dq_entry_len ?_ (dq_args_len _)))
    show wpAny _ _ (do retInt (← (do return (← fieldsOf (.ref l)).size - 2))) _ _ s
    refine wpAny_bind (wpAny_bind (wpAny_bind (wpAny_load ho (wpAny_pure ?_))))
    refine wpAny_pure (wpAny_bind (wpAny_mkInt (wpAny_pure ⟨_, rfl, ?_⟩)))
    refine wpAny_bind (wpAny_holding (wpAny_pure ?_))
    refine wpAny_bind (wpAny_letGo ?_)
    exact wpAny_bind (wpAny_mkInt (wpAny_pure ⟨_, rfl, rfl, h⟩))
  have key : wpAny (model prog w) A (runValue (.builtin "len" ⟨[.ref l], []⟩)) (fun r s' => r = .int 0 (s.toks + 1) ∧ Q false s') E s := by
    refine wpAny_runValue (codeAny_builtin entry_len ?_)
    rw [Around.under_plainId plain_len _]
    exact wpAny_mono (body _) (fun fin s' h' => by obtain ⟨r, rfl, hq⟩ := h'; exact hq) fun _ _ e => e
  unfold truthy
  first
    | refine wpAny_bind (wpAny_callSpecial?_none (name := Str.ofString "__bool__") hT dq_noBool ?_)
    | refine wpAny_bind (wpAny_pure (wpAny_bind (wpAny_callSpecial?_none (name := Str.ofString "__bool__") hT dq_noBool ?_)))
  first
    | refine wpAny_bind (wpAny_specialOf (name := Str.ofString "__len__") hT dq_slot_len.lookup ?_)
    | refine wpAny_bind (wpAny_pure (wpAny_bind (wpAny_specialOf (name := Str.ofString "__len__") hT dq_slot_len.lookup ?_)))
  first
    | exact wpAny_bind (wpAny_mono key (fun r s' h' => by obtain ⟨rfl, hq⟩ := h'; exact wpAny_pure hq) fun _ _ e => e)
    | exact wpAny_bind (wpAny_pure (wpAny_bind (wpAny_mono key (fun r s' h' => by obtain ⟨rfl, hq⟩ := h'; exact wpAny_pure hq) fun _ _ e => e)))
theorem truthy_dqN {h₀ : Heap} {L : Addr} {news : List (Addr × Obj)} {l : Addr} {n : Int} {Q : Bool → Shared → Prop} (N : News h₀ L s.heap news) (hm : (l, dqObj n) ∈ news) (h : Q false { s with toks := s.toks + 1 + 1 }) :
    wpAny (model prog w) A (truthy (.ref l)) Q E s := truthy_dq (N _ hm).1 h
end
theorem c_word : Wants PySem.Challenge.rw_in0077_01 Mine.K → ∀ (prog : Program) (w : World), ∀ (p : Program) (loose : List Str) (mean : ExcName → Option Value) (mg mb : Str → Option Value) (rest : List (Addr × Obj)) (κ τ κs : Nat → Tok) (x d sx sd pb fs : Addr) (b : Str) (pos ln : Int) (tb tp tl tt tst : Tok) (tk : Str) (q : Bool) (p2 : Int),
  (∀ q ∈ rest, q.1 ≠ d) → (∀ q ∈ rest, q.1 ≠ sd) → x ≠ d → x ≠ sd → sx ≠ d → sx ≠ sd → d ≠ sd → sd ≠ d → RtSteps b (Str.ofString " ") (Str.ofString "") false pos (Str.ofString "a") tk q p2 → chAt b p2 = Str.ofString " " → 0 ≤ p2 → p2 + 1 < b.length → b.length < 2 ^ 20 → tk.length < 2 ^ 62 → ((((tk.length : Int) != 0) = true ∧ (tk == Str.ofString "") = false) ∨ ((((tk.length : Int) != 0) = false) ∧ q = true)) → Claim prog w (Mine.K w.params) p loose mean mg mb ((x, instObj 746 d) :: (d, lexD w.params κ τ sx pb fs (.str (Str.ofString " ") tst) ln tl (Str.ofString "") tt) :: (sx, instObj 611 sd) :: (sd, sioD w.params κs b pos tb tp) :: rest) 7 100 (call (.ref 714) [.ref x]) (fun v news' => ∃ (t tp' tl' tt' tst' : Tok) (ln' : Int), v = .str tk t ∧ news' = ((x, instObj 746 d) :: (d, lexD w.params κ τ sx pb fs (.str (Str.ofString " ") tst') ln' tl' (Str.ofString "") tt') :: (sx, instObj 611 sd) :: (sd, sioD w.params κs b (p2 + 1) tb tp') :: rest)) := by
  k_fill
  intro hW prog w p loose mean mg mb rest κ τ κs x d sx sd pb fs b pos ln tb tp tl tt tst tk q p2
  refine' with_fn (K := Mine.K w.params) (f := 714) ?h ?_
  case h => walk_at "Mine.KN"
  intro hK
  exact x_word hW prog w _ _ _ _ _ _ _ _ _ _ _ _ _ _ _ _ _ _ _ _ _ _ _ _ _ _ _ _ hK p loose mean mg mb rest κ τ κs x d sx sd pb fs b pos ln tb tp tl tt tst tk q p2
theorem c_none : Wants PySem.Challenge.rw_in0077_01 Mine.K → ∀ (prog : Program) (w : World), ∀ (p : Program) (loose : List Str) (mean : ExcName → Option Value) (mg mb : Str → Option Value) (rest : List (Addr × Obj)) (κ τ κs : Nat → Tok) (x d sx sd pb fs : Addr) (b : Str) (pos ln : Int) (tb tp tl tt tst : Tok) ,
  (∀ q ∈ rest, q.1 ≠ d) → (∀ q ∈ rest, q.1 ≠ sd) → x ≠ d → x ≠ sd → sx ≠ d → sx ≠ sd → d ≠ sd → sd ≠ d → RtSteps b (Str.ofString " ") (Str.ofString "") false pos (Str.ofString " ") (Str.ofString "") false b.length → b.length < 2 ^ 20 → Claim prog w (Mine.K w.params) p loose mean mg mb ((x, instObj 746 d) :: (d, lexD w.params κ τ sx pb fs (.str (Str.ofString " ") tst) ln tl (Str.ofString "") tt) :: (sx, instObj 611 sd) :: (sd, sioD w.params κs b pos tb tp) :: rest) 7 100 (call (.ref 714) [.ref x]) (fun v news' => ∃ (tp' tl' tt' : Tok) (ln' : Int), v = .none ∧ news' = ((x, instObj 746 d) :: (d, lexD w.params κ τ sx pb fs .none ln' tl' (Str.ofString "") tt') :: (sx, instObj 611 sd) :: (sd, sioD w.params κs b b.length tb tp') :: rest)) := by
  k_fill
  intro hW prog w p loose mean mg mb rest κ τ κs x d sx sd pb fs b pos ln tb tp tl tt tst
  refine' with_fn (K := Mine.K w.params) (f := 714) ?h ?_
  case h => walk_at "Mine.KN"
  intro hK
  exact x_none hW prog w _ _ _ _ _ _ _ _ _ _ _ _ _ _ _ _ _ _ _ _ _ _ _ _ _ _ _ _ hK p loose mean mg mb rest κ τ κs x d sx sd pb fs b pos ln tb tp tl tt tst
theorem use_c_word {prog : Program} {w : World} {p : Program} {loose : List Str} {mean : ExcName → Option Value} {mg mb : Str → Option Value} {rest : List (Addr × Obj)} {κ τ κs : Nat → Tok} {x d sx sd pb fs : Addr} {b : Str} {pos ln : Int} {tb tp tl tt tst : Tok} {tk : Str} {q : Bool} {p2 : Int} {A : Around} {cn : Str} {cs : Scope} {a : Addr} {ccd : Value} {cl : List (Str × Addr)} {outer : List Env} {A₀ : Around} {base h₀ : Heap} {L : Addr} {m : Str → Option Value} {hp : Heap} {gs : Array GenState} {dr : Drawn} {tk9 : Nat} {os : OsState} {Q E : Value → Shared → Prop}
    (N : News h₀ L hp ((x, instObj 746 d) :: (d, lexD w.params κ τ sx pb fs (.str (Str.ofString " ") tst) ln tl (Str.ofString "") tt) :: (sx, instObj 611 sd) :: (sd, sioD w.params κs b pos tb tp) :: rest)) (ret : ∀ (t tp' tl' tt' tst' : Tok) (ln' : Int) (h' : Heap) (tk' : Nat), Fr h₀ L h' m → News h₀ L h' (((x, instObj 746 d) :: (d, lexD w.params κ τ sx pb fs (.str (Str.ofString " ") tst') ln' tl' (Str.ofString "") tt') :: (sx, instObj 611 sd) :: (sd, sioD w.params κs b (p2 + 1) tb tp') :: rest)) → Q (.str tk t) ⟨h', gs, dr, tk', os⟩)
    (g0 : (∀ q ∈ rest, q.1 ≠ d) := by with_reducible assumption) (g1 : (∀ q ∈ rest, q.1 ≠ sd) := by with_reducible assumption) (g2 : x ≠ d := by with_reducible assumption) (g3 : x ≠ sd := by with_reducible assumption) (g4 : sx ≠ d := by with_reducible assumption) (g5 : sx ≠ sd := by with_reducible assumption) (g6 : d ≠ sd := by with_reducible assumption) (g7 : sd ≠ d := by with_reducible assumption) (g8 : RtSteps b (Str.ofString " ") (Str.ofString "") false pos (Str.ofString "a") tk q p2 := by with_reducible assumption) (g9 : chAt b p2 = Str.ofString " " := by with_reducible assumption) (g10 : 0 ≤ p2 := by with_reducible assumption) (g11 : p2 + 1 < b.length := by with_reducible assumption) (g12 : b.length < 2 ^ 20 := by with_reducible assumption) (g13 : tk.length < 2 ^ 62 := by with_reducible assumption) (g14 : ((((tk.length : Int) != 0) = true ∧ (tk == Str.ofString "") = false) ∨ ((((tk.length : Int) != 0) = false) ∧ q = true)) := by with_reducible assumption)
    (B : Below A₀ base outer h₀ := by k_asm) (hA : A.frames = some (envX cn cs L a ccd cl :: outer) := by exact rfl) (hh : A.handled = none := by exact rfl) (F : Fr h₀ L hp m := by k_asm) (X : (Mine.K w.params).In h₀ := by k_asm) (T : Top p loose mean mg mb h₀ := by k_asm) (hk : cs.kind = .function := by first | exact rfl | assumption) (hd : A.depth + 7 < recursionLimit := by ktr_room) (hu : A.units + 100 < cLine := by ktr_units) :
    wpAny (model prog w) A (call (.ref 714) [.ref x]) Q E ⟨hp, gs, dr, tk9, os⟩ := by
  refine Claim.useA (c_word trivial _ _ _ _ _ _ _ _ _ _ _ _ _ _ _ _ _ _ _ _ _ _ _ _ _ _ _ _ g0 g1 g2 g3 g4 g5 g6 g7 g8 g9 g10 g11 g12 g13 g14) hA hh B F X N T hk hd hu ?_
  rintro v n h' tk' ⟨t, tp', tl', tt', tst', ln', rfl, rfl⟩ F' N'
  exact ret t tp' tl' tt' tst' ln' h' tk' F' N'
theorem use_c_none {prog : Program} {w : World} {p : Program} {loose : List Str} {mean : ExcName → Option Value} {mg mb : Str → Option Value} {rest : List (Addr × Obj)} {κ τ κs : Nat → Tok} {x d sx sd pb fs : Addr} {b : Str} {pos ln : Int} {tb tp tl tt tst : Tok} {A : Around} {cn : Str} {cs : Scope} {a : Addr} {ccd : Value} {cl : List (Str × Addr)} {outer : List Env} {A₀ : Around} {base h₀ : Heap} {L : Addr} {m : Str → Option Value} {hp : Heap} {gs : Array GenState} {dr : Drawn} {tk9 : Nat} {os : OsState} {Q E : Value → Shared → Prop}
    (N : News h₀ L hp ((x, instObj 746 d) :: (d, lexD w.params κ τ sx pb fs (.str (Str.ofString " ") tst) ln tl (Str.ofString "") tt) :: (sx, instObj 611 sd) :: (sd, sioD w.params κs b pos tb tp) :: rest)) (ret : ∀ (tp' tl' tt' : Tok) (ln' : Int) (h' : Heap) (tk' : Nat), Fr h₀ L h' m → News h₀ L h' (((x, instObj 746 d) :: (d, lexD w.params κ τ sx pb fs .none ln' tl' (Str.ofString "") tt') :: (sx, instObj 611 sd) :: (sd, sioD w.params κs b b.length tb tp') :: rest)) → Q (.none) ⟨h', gs, dr, tk', os⟩)
    (g0 : (∀ q ∈ rest, q.1 ≠ d) := by with_reducible assumption) (g1 : (∀ q ∈ rest, q.1 ≠ sd) := by with_reducible assumption) (g2 : x ≠ d := by with_reducible assumption) (g3 : x ≠ sd := by with_reducible assumption) (g4 : sx ≠ d := by with_reducible assumption) (g5 : sx ≠ sd := by with_reducible assumption) (g6 : d ≠ sd := by with_reducible assumption) (g7 : sd ≠ d := by with_reducible assumption) (g8 : RtSteps b (Str.ofString " ") (Str.ofString "") false pos (Str.ofString " ") (Str.ofString "") false b.length := by with_reducible assumption) (g9 : b.length < 2 ^ 20 := by with_reducible assumption)
    (B : Below A₀ base outer h₀ := by k_asm) (hA : A.frames = some (envX cn cs L a ccd cl :: outer) := by exact rfl) (hh : A.handled = none := by exact rfl) (F : Fr h₀ L hp m := by k_asm) (X : (Mine.K w.params).In h₀ := by k_asm) (T : Top p loose mean mg mb h₀ := by k_asm) (hk : cs.kind = .function := by first | exact rfl | assumption) (hd : A.depth + 7 < recursionLimit := by ktr_room) (hu : A.units + 100 < cLine := by ktr_units) :
    wpAny (model prog w) A (call (.ref 714) [.ref x]) Q E ⟨hp, gs, dr, tk9, os⟩ := by
  refine Claim.useA (c_none trivial _ _ _ _ _ _ _ _ _ _ _ _ _ _ _ _ _ _ _ _ _ _ _ _ _ g0 g1 g2 g3 g4 g5 g6 g7 g8 g9) hA hh B F X N T hk hd hu ?_
  rintro v n h' tk' ⟨tp', tl', tt', ln', rfl, rfl⟩ F' N'
  exact ret tp' tl' tt' ln' h' tk' F' N'
section
local macro_rules | `(tactic| walk_at "pad") => `(tactic| skip)
local macro_rules | `(tactic| walk_at "truthy ref") => `(tactic| ((with_reducible rename News _ _ _ _ => lN'); k_dflt (refine' truthy_dqN lN' ?hm ?_; (case hm => k_mem))))
local macro_rules | `(tactic| walk_at "call ref") => `(tactic| ktr_call 714 use_c_word)
theorem c_get : Wants PySem.Challenge.rw_in0077_01 Mine.K → ∀ (prog : Program) (w : World), ∀ (p : Program) (loose : List Str) (mean : ExcName → Option Value) (mg mb : Str → Option Value) (rest : List (Addr × Obj)) (κ τ κs : Nat → Tok) (x d sx sd pb fs : Addr) (b : Str) (pos ln : Int) (tb tp tl tt tst : Tok) (nq mq : Int) (tk : Str) (q : Bool) (p2 : Int),
  x ≠ d → x ≠ sd → sx ≠ d → sx ≠ sd → d ≠ sd → sd ≠ d → pb ≠ d → pb ≠ sd → fs ≠ d → fs ≠ sd → (∀ q ∈ rest, q.1 ≠ d) → (∀ q ∈ rest, q.1 ≠ sd) → RtSteps b (Str.ofString " ") (Str.ofString "") false pos (Str.ofString "a") tk q p2 → chAt b p2 = Str.ofString " " → 0 ≤ p2 → p2 + 1 < b.length → b.length < 2 ^ 20 → tk.length < 2 ^ 62 → ((((tk.length : Int) != 0) = true ∧ (tk == Str.ofString "") = false) ∨ ((((tk.length : Int) != 0) = false) ∧ q = true)) →
  Claim prog w (Mine.K w.params) p loose mean mg mb ((x, instObj 746 d) :: (d, lexD w.params κ τ sx pb fs (.str (Str.ofString " ") tst) ln tl (Str.ofString "") tt) :: (sx, instObj 611 sd) :: (sd, sioD w.params κs b pos tb tp) :: (pb, dqObj nq) :: (fs, dqObj mq) :: rest) 9 120 (call (.ref 707) [.ref x]) (fun v news' => ∃ (t tp' tl' tt' tst' : Tok) (ln' : Int), v = .str tk t ∧ news' = ((x, instObj 746 d) :: (d, lexD w.params κ τ sx pb fs (.str (Str.ofString " ") tst') ln' tl' (Str.ofString "") tt') :: (sx, instObj 611 sd) :: (sd, sioD w.params κs b (p2 + 1) tb tp') :: (pb, dqObj nq) :: (fs, dqObj mq) :: rest)) := by
  k_fill
  intro _ prog w p loose mean mg mb rest κ τ κs x d sx sd pb fs b pos ln tb tp tl tt tst nq mq tk q p2 n1 n2 n3 n4 n5 n6 m1 m2 m3 m4 hr1 hr2 hS hc hp0 hp1 hb ht1 ht3 dp un gd cn cs a ccd cl outer A₀ base h₀ L m s Q E B F X N T hk hd hu hret
  have hx1 : ∀ q ∈ ((pb, dqObj nq) :: (fs, dqObj mq) :: rest), q.1 ≠ d := List.forall_mem_cons.mpr ⟨m1, List.forall_mem_cons.mpr ⟨m3, hr1⟩⟩
  have hx2 : ∀ q ∈ ((pb, dqObj nq) :: (fs, dqObj mq) :: rest), q.1 ≠ sd := List.forall_mem_cons.mpr ⟨m2, List.forall_mem_cons.mpr ⟨m4, hr2⟩⟩
  dsimp only [lexD] at N
  refine fold1 N ?_
  clear N
  intro es9 N
  walk_at "ENTER"
  k_steps
  all_goals (refine' hret _ _ _ _ ?o1 ?f1 ?n1; (case f1 => k_asm); (case n1 => k_asm); (case o1 => exact ⟨_, _, _, _, _, _, rfl, rfl⟩))
end
section
local macro_rules | `(tactic| walk_at "truthy ref") => `(tactic| ((with_reducible rename News _ _ _ _ => lN'); k_dflt (refine' truthy_dqN lN' ?hm ?_; (case hm => k_mem))))
local macro_rules | `(tactic| walk_at "call ref") => `(tactic| ktr_call 714 use_c_none)
theorem c_get_end : Wants PySem.Challenge.rw_in0077_01 Mine.K → ∀ (prog : Program) (w : World), ∀ (p : Program) (loose : List Str) (mean : ExcName → Option Value) (mg mb : Str → Option Value) (rest : List (Addr × Obj)) (κ τ κs : Nat → Tok) (x d sx sd pb fs : Addr) (b : Str) (pos ln : Int) (tb tp tl tt tst : Tok) (nq mq : Int) ,
  x ≠ d → x ≠ sd → sx ≠ d → sx ≠ sd → d ≠ sd → sd ≠ d → pb ≠ d → pb ≠ sd → fs ≠ d → fs ≠ sd → (∀ q ∈ rest, q.1 ≠ d) → (∀ q ∈ rest, q.1 ≠ sd) → RtSteps b (Str.ofString " ") (Str.ofString "") false pos (Str.ofString " ") (Str.ofString "") false b.length → b.length < 2 ^ 20 →
  Claim prog w (Mine.K w.params) p loose mean mg mb ((x, instObj 746 d) :: (d, lexD w.params κ τ sx pb fs (.str (Str.ofString " ") tst) ln tl (Str.ofString "") tt) :: (sx, instObj 611 sd) :: (sd, sioD w.params κs b pos tb tp) :: (pb, dqObj nq) :: (fs, dqObj mq) :: rest) 9 120 (call (.ref 707) [.ref x]) (fun v news' => ∃ (tp' tl' tt' : Tok) (ln' : Int), v = .none ∧ news' = ((x, instObj 746 d) :: (d, lexD w.params κ τ sx pb fs .none ln' tl' (Str.ofString "") tt') :: (sx, instObj 611 sd) :: (sd, sioD w.params κs b b.length tb tp') :: (pb, dqObj nq) :: (fs, dqObj mq) :: rest)) := by
  k_fill
  intro _ prog w p loose mean mg mb rest κ τ κs x d sx sd pb fs b pos ln tb tp tl tt tst nq mq  n1 n2 n3 n4 n5 n6 m1 m2 m3 m4 hr1 hr2 hS hb dp un gd cn cs a ccd cl outer A₀ base h₀ L m s Q E B F X N T hk hd hu hret
  have hx1 : ∀ q ∈ ((pb, dqObj nq) :: (fs, dqObj mq) :: rest), q.1 ≠ d := List.forall_mem_cons.mpr ⟨m1, List.forall_mem_cons.mpr ⟨m3, hr1⟩⟩
  have hx2 : ∀ q ∈ ((pb, dqObj nq) :: (fs, dqObj mq) :: rest), q.1 ≠ sd := List.forall_mem_cons.mpr ⟨m2, List.forall_mem_cons.mpr ⟨m4, hr2⟩⟩
  dsimp only [lexD] at N
  refine fold1 N ?_
  clear N
  intro es9 N
  walk_at "ENTER"
  k_steps
  all_goals (refine' hret _ _ _ _ ?o1 ?f1 ?n1; (case f1 => k_asm); (case n1 => k_asm); (case o1 => exact ⟨_, _, _, _, rfl, rfl⟩))
end
theorem use_c_get {prog : Program} {w : World} {p : Program} {loose : List Str} {mean : ExcName → Option Value} {mg mb : Str → Option Value} {rest : List (Addr × Obj)} {κ τ κs : Nat → Tok} {x d sx sd pb fs : Addr} {b : Str} {pos ln : Int} {tb tp tl tt tst : Tok} {nq mq : Int} {tk : Str} {q : Bool} {p2 : Int} {A : Around} {cn : Str} {cs : Scope} {a : Addr} {ccd : Value} {cl : List (Str × Addr)} {outer : List Env} {A₀ : Around} {base h₀ : Heap} {L : Addr} {m : Str → Option Value} {hp : Heap} {gs : Array GenState} {dr : Drawn} {tk9 : Nat} {os : OsState} {Q E : Value → Shared → Prop}
    (N : News h₀ L hp ((x, instObj 746 d) :: (d, lexD w.params κ τ sx pb fs (.str (Str.ofString " ") tst) ln tl (Str.ofString "") tt) :: (sx, instObj 611 sd) :: (sd, sioD w.params κs b pos tb tp) :: (pb, dqObj nq) :: (fs, dqObj mq) :: rest)) (ret : ∀ (t tp' tl' tt' tst' : Tok) (ln' : Int) (h' : Heap) (tk' : Nat), Fr h₀ L h' m → News h₀ L h' (((x, instObj 746 d) :: (d, lexD w.params κ τ sx pb fs (.str (Str.ofString " ") tst') ln' tl' (Str.ofString "") tt') :: (sx, instObj 611 sd) :: (sd, sioD w.params κs b (p2 + 1) tb tp') :: (pb, dqObj nq) :: (fs, dqObj mq) :: rest)) → Q (.str tk t) ⟨h', gs, dr, tk', os⟩)
    (g0 : x ≠ d := by with_reducible assumption) (g1 : x ≠ sd := by with_reducible assumption) (g2 : sx ≠ d := by with_reducible assumption) (g3 : sx ≠ sd := by with_reducible assumption) (g4 : d ≠ sd := by with_reducible assumption) (g5 : sd ≠ d := by with_reducible assumption) (g6 : pb ≠ d := by with_reducible assumption) (g7 : pb ≠ sd := by with_reducible assumption) (g8 : fs ≠ d := by with_reducible assumption) (g9 : fs ≠ sd := by with_reducible assumption) (g10 : (∀ q ∈ rest, q.1 ≠ d) := by with_reducible assumption) (g11 : (∀ q ∈ rest, q.1 ≠ sd) := by with_reducible assumption) (g12 : RtSteps b (Str.ofString " ") (Str.ofString "") false pos (Str.ofString "a") tk q p2 := by with_reducible assumption) (g13 : chAt b p2 = Str.ofString " " := by with_reducible assumption) (g14 : 0 ≤ p2 := by with_reducible assumption) (g15 : p2 + 1 < b.length := by with_reducible assumption) (g16 : b.length < 2 ^ 20 := by with_reducible assumption) (g17 : tk.length < 2 ^ 62 := by with_reducible assumption) (g18 : ((((tk.length : Int) != 0) = true ∧ (tk == Str.ofString "") = false) ∨ ((((tk.length : Int) != 0) = false) ∧ q = true)) := by with_reducible assumption)
    (B : Below A₀ base outer h₀ := by k_asm) (hA : A.frames = some (envX cn cs L a ccd cl :: outer) := by exact rfl) (hh : A.handled = none := by exact rfl) (F : Fr h₀ L hp m := by k_asm) (X : (Mine.K w.params).In h₀ := by k_asm) (T : Top p loose mean mg mb h₀ := by k_asm) (hk : cs.kind = .function := by first | exact rfl | assumption) (hd : A.depth + 9 < recursionLimit := by ktr_room) (hu : A.units + 120 < cLine := by ktr_units) :
    wpAny (model prog w) A (call (.ref 707) [.ref x]) Q E ⟨hp, gs, dr, tk9, os⟩ := by
  refine Claim.useA (c_get trivial _ _ _ _ _ _ _ _ _ _ _ _ _ _ _ _ _ _ _ _ _ _ _ _ _ _ _ _ _ _ g0 g1 g2 g3 g4 g5 g6 g7 g8 g9 g10 g11 g12 g13 g14 g15 g16 g17 g18) hA hh B F X N T hk hd hu ?_
  rintro v n h' tk' ⟨t, tp', tl', tt', tst', ln', rfl, rfl⟩ F' N'
  exact ret t tp' tl' tt' tst' ln' h' tk' F' N'
theorem use_c_get_end {prog : Program} {w : World} {p : Program} {loose : List Str} {mean : ExcName → Option Value} {mg mb : Str → Option Value} {rest : List (Addr × Obj)} {κ τ κs : Nat → Tok} {x d sx sd pb fs : Addr} {b : Str} {pos ln : Int} {tb tp tl tt tst : Tok} {nq mq : Int} {A : Around} {cn : Str} {cs : Scope} {a : Addr} {ccd : Value} {cl : List (Str × Addr)} {outer : List Env} {A₀ : Around} {base h₀ : Heap} {L : Addr} {m : Str → Option Value} {hp : Heap} {gs : Array GenState} {dr : Drawn} {tk9 : Nat} {os : OsState} {Q E : Value → Shared → Prop}
    (N : News h₀ L hp ((x, instObj 746 d) :: (d, lexD w.params κ τ sx pb fs (.str (Str.ofString " ") tst) ln tl (Str.ofString "") tt) :: (sx, instObj 611 sd) :: (sd, sioD w.params κs b pos tb tp) :: (pb, dqObj nq) :: (fs, dqObj mq) :: rest)) (ret : ∀ (tp' tl' tt' : Tok) (ln' : Int) (h' : Heap) (tk' : Nat), Fr h₀ L h' m → News h₀ L h' (((x, instObj 746 d) :: (d, lexD w.params κ τ sx pb fs .none ln' tl' (Str.ofString "") tt') :: (sx, instObj 611 sd) :: (sd, sioD w.params κs b b.length tb tp') :: (pb, dqObj nq) :: (fs, dqObj mq) :: rest)) → Q (.none) ⟨h', gs, dr, tk', os⟩)
    (g0 : x ≠ d := by with_reducible assumption) (g1 : x ≠ sd := by with_reducible assumption) (g2 : sx ≠ d := by with_reducible assumption) (g3 : sx ≠ sd := by with_reducible assumption) (g4 : d ≠ sd := by with_reducible assumption) (g5 : sd ≠ d := by with_reducible assumption) (g6 : pb ≠ d := by with_reducible assumption) (g7 : pb ≠ sd := by with_reducible assumption) (g8 : fs ≠ d := by with_reducible assumption) (g9 : fs ≠ sd := by with_reducible assumption) (g10 : (∀ q ∈ rest, q.1 ≠ d) := by with_reducible assumption) (g11 : (∀ q ∈ rest, q.1 ≠ sd) := by with_reducible assumption) (g12 : RtSteps b (Str.ofString " ") (Str.ofString "") false pos (Str.ofString " ") (Str.ofString "") false b.length := by with_reducible assumption) (g13 : b.length < 2 ^ 20 := by with_reducible assumption)
    (B : Below A₀ base outer h₀ := by k_asm) (hA : A.frames = some (envX cn cs L a ccd cl :: outer) := by exact rfl) (hh : A.handled = none := by exact rfl) (F : Fr h₀ L hp m := by k_asm) (X : (Mine.K w.params).In h₀ := by k_asm) (T : Top p loose mean mg mb h₀ := by k_asm) (hk : cs.kind = .function := by first | exact rfl | assumption) (hd : A.depth + 9 < recursionLimit := by ktr_room) (hu : A.units + 120 < cLine := by ktr_units) :
    wpAny (model prog w) A (call (.ref 707) [.ref x]) Q E ⟨hp, gs, dr, tk9, os⟩ := by
  refine Claim.useA (c_get_end trivial _ _ _ _ _ _ _ _ _ _ _ _ _ _ _ _ _ _ _ _ _ _ _ _ _ _ _ g0 g1 g2 g3 g4 g5 g6 g7 g8 g9 g10 g11 g12 g13) hA hh B F X N T hk hd hu ?_
  rintro v n h' tk' ⟨tp', tl', tt', ln', rfl, rfl⟩ F' N'
  exact ret tp' tl' tt' ln' h' tk' F' N'
section
local macro_rules | `(tactic| walk_at "call ref") => `(tactic| ktr_call 707 use_c_get)
theorem c_next : Wants PySem.Challenge.rw_in0077_01 Mine.K → ∀ (prog : Program) (w : World), ∀ (p : Program) (loose : List Str) (mean : ExcName → Option Value) (mg mb : Str → Option Value) (rest : List (Addr × Obj)) (κ τ κs : Nat → Tok) (x d sx sd pb fs : Addr) (b : Str) (pos ln : Int) (tb tp tl tt tst : Tok) (nq mq : Int) (tk : Str) (q : Bool) (p2 : Int),
  x ≠ d → x ≠ sd → sx ≠ d → sx ≠ sd → d ≠ sd → sd ≠ d → pb ≠ d → pb ≠ sd → fs ≠ d → fs ≠ sd → (∀ q ∈ rest, q.1 ≠ d) → (∀ q ∈ rest, q.1 ≠ sd) → RtSteps b (Str.ofString " ") (Str.ofString "") false pos (Str.ofString "a") tk q p2 → chAt b p2 = Str.ofString " " → 0 ≤ p2 → p2 + 1 < b.length → b.length < 2 ^ 20 → tk.length < 2 ^ 62 → ((((tk.length : Int) != 0) = true ∧ (tk == Str.ofString "") = false) ∨ ((((tk.length : Int) != 0) = false) ∧ q = true)) →
  Claim prog w (Mine.K w.params) p loose mean mg mb ((x, instObj 746 d) :: (d, lexD w.params κ τ sx pb fs (.str (Str.ofString " ") tst) ln tl (Str.ofString "") tt) :: (sx, instObj 611 sd) :: (sd, sioD w.params κs b pos tb tp) :: (pb, dqObj nq) :: (fs, dqObj mq) :: rest) 12 180 (call (.ref 743) [.ref x]) (fun v news' => ∃ (t tp' tl' tt' tst' : Tok) (ln' : Int), v = .str tk t ∧ news' = ((x, instObj 746 d) :: (d, lexD w.params κ τ sx pb fs (.str (Str.ofString " ") tst') ln' tl' (Str.ofString "") tt') :: (sx, instObj 611 sd) :: (sd, sioD w.params κs b (p2 + 1) tb tp') :: (pb, dqObj nq) :: (fs, dqObj mq) :: rest)) := by
  k_fill
  intro _ prog w p loose mean mg mb rest κ τ κs x d sx sd pb fs b pos ln tb tp tl tt tst nq mq tk q p2 n1 n2 n3 n4 n5 n6 m1 m2 m3 m4 hr1 hr2 hS hc hp0 hp1 hb ht1 ht3 dp un gd cn cs a ccd cl outer A₀ base h₀ L m s Q E B F X N T hk hd hu hret
  have hx1 : ∀ q ∈ ((pb, dqObj nq) :: (fs, dqObj mq) :: rest), q.1 ≠ d := List.forall_mem_cons.mpr ⟨m1, List.forall_mem_cons.mpr ⟨m3, hr1⟩⟩
  have hx2 : ∀ q ∈ ((pb, dqObj nq) :: (fs, dqObj mq) :: rest), q.1 ≠ sd := List.forall_mem_cons.mpr ⟨m2, List.forall_mem_cons.mpr ⟨m4, hr2⟩⟩
  dsimp only [lexD] at N
  refine fold1 N ?_
  clear N
  intro es9 N
  walk_at "ENTER"
  k_steps
  all_goals (refine' hret _ _ _ _ ?o1 ?f1 ?n1; (case f1 => k_asm); (case n1 => k_asm); (case o1 => exact ⟨_, _, _, _, _, _, rfl, rfl⟩))
end
section
local macro_rules | `(tactic| walk_at "call ref") => `(tactic| ktr_call 707 use_c_get_end)
local macro_rules | `(tactic| walk_at "leaving ref") => `(tactic| (k_dflt (refine lvRaise ?_); k_whole; intros))
theorem c_next_end : Wants PySem.Challenge.rw_in0077_01 Mine.K → ∀ (prog : Program) (w : World), ∀ (p : Program) (loose : List Str) (mean : ExcName → Option Value) (mg mb : Str → Option Value) (rest : List (Addr × Obj)) (κ τ κs : Nat → Tok) (x d sx sd pb fs : Addr) (b : Str) (pos ln : Int) (tb tp tl tt tst : Tok) (nq mq : Int) ,
  x ≠ d → x ≠ sd → sx ≠ d → sx ≠ sd → d ≠ sd → sd ≠ d → pb ≠ d → pb ≠ sd → fs ≠ d → fs ≠ sd → (∀ q ∈ rest, q.1 ≠ d) → (∀ q ∈ rest, q.1 ≠ sd) → RtSteps b (Str.ofString " ") (Str.ofString "") false pos (Str.ofString " ") (Str.ofString "") false b.length → b.length < 2 ^ 20 →
  ClaimE prog w (Mine.K w.params) p loose mean mg mb ((x, instObj 746 d) :: (d, lexD w.params κ τ sx pb fs (.str (Str.ofString " ") tst) ln tl (Str.ofString "") tt) :: (sx, instObj 611 sd) :: (sd, sioD w.params κs b pos tb tp) :: (pb, dqObj nq) :: (fs, dqObj mq) :: rest) 12 180 (call (.ref 743) [.ref x]) "StopIteration" (fun vs news' => vs = [] ∧ ∃ (tp' tl' tt' : Tok) (ln' : Int), news' = ((x, instObj 746 d) :: (d, lexD w.params κ τ sx pb fs .none ln' tl' (Str.ofString "") tt') :: (sx, instObj 611 sd) :: (sd, sioD w.params κs b b.length tb tp') :: (pb, dqObj nq) :: (fs, dqObj mq) :: rest)) := by
  k_fill
  intro _ prog w p loose mean mg mb rest κ τ κs x d sx sd pb fs b pos ln tb tp tl tt tst nq mq  n1 n2 n3 n4 n5 n6 m1 m2 m3 m4 hr1 hr2 hS hb dp un gd cn cs a ccd cl outer A₀ base h₀ L m s Q E B F X N T hk hd hu hret
  have hx1 : ∀ q ∈ ((pb, dqObj nq) :: (fs, dqObj mq) :: rest), q.1 ≠ d := List.forall_mem_cons.mpr ⟨m1, List.forall_mem_cons.mpr ⟨m3, hr1⟩⟩
  have hx2 : ∀ q ∈ ((pb, dqObj nq) :: (fs, dqObj mq) :: rest), q.1 ≠ sd := List.forall_mem_cons.mpr ⟨m2, List.forall_mem_cons.mpr ⟨m4, hr2⟩⟩
  dsimp only [lexD] at N
  refine fold1 N ?_
  clear N
  intro es9 N
  walk_at "ENTER"
  k_steps
  all_goals (refine' hret _ _ _ _ _ _ _ ?oE ?fE ?rE ?uE; (case rE => assumption); (case uE => assumption); (case fE => assumption); (case oE => exact ⟨rfl, _, _, _, _, rfl⟩))
end
theorem owit_stopS {M : Model} {A A₀ : Around} {E : Value → Shared → Prop} {s : Shared} {base h₀ g : Heap} {outer : List Env} {L a e t : Addr} {m : Str → Option Value} {name : Str} {scope : Scope} {cd : Value} {vs : List Value} {news : List (Addr × Obj)} {X : String} {Q : Option Value → Shared → Prop}
    (B : Below A₀ base outer h₀) (F : Fr h₀ L g m) (R : RaisedS base g (envOf name scope L a cd :: outer) e (.type X) t vs news s.heap) (U : g.UpToSlots s.heap) (hsub : isSubtype (.type X) (.type "StopIteration") = pure true)
    (k : ∀ g', KtsTurn (outer.filterMap (·.frame)) h₀ g' → Fr g' L s.heap m → News g' L s.heap news → Below A₀ base outer g' → Q none s) : OwitStop M A Q E (.ref e) s := by
  obtain ⟨⟨Bh, hB, hBG, hl, hfl, _⟩, _⟩ := R
  have hL : Bh.get? L = none := by
    obtain ⟨_, ⟨L', _, hf, hn', _⟩, _⟩ := hfl.2.2.1
    obtain rfl : L = L' := Option.some.inj hf
    exact hn'
  have hf' := flyingW_base hB hfl
  obtain ⟨ob, hob, hobc⟩ := hf'.there
  have hT : s.TypeIs (.ref e) X := (show ∃ o, s.heap.get? e = some o ∧ o.cls = .type X from ⟨ob, hob, hobc⟩)
  obtain ⟨g', T', F', B'⟩ := kts_ground B F hBG hfl.1 U
  unfold OwitStop
  refine wpAny_isInstance hT hsub ?_
  show (if true = true then Q none s else E (.ref e) s)
  rw [if_pos rfl]
  exact k g' T' F' (fun q hq => ⟨hfl.1 _ _ (hl q hq).1, (fun z => by have := (hl q hq).1; rw [z, hL] at this; cases this), T'.none_ _ (kts_none F.keep (hl q hq).2.1)⟩) B'
theorem sub_stop : isSubtype (.type "StopIteration") (.type "StopIteration") = pure true := by rw [isSubtype_type]; kernel_rfl
noncomputable def Toks (b : Str) : Int → List Str → Prop
  | pos, [] => RtSteps b (Str.ofString " ") (Str.ofString "") false pos (Str.ofString " ") (Str.ofString "") false b.length
  | pos, w :: ws => ∃ (q : Bool) (p2 : Int), RtSteps b (Str.ofString " ") (Str.ofString "") false pos (Str.ofString "a") w q p2 ∧ chAt b p2 = Str.ofString " " ∧ 0 ≤ p2 ∧ p2 + 1 < b.length ∧ w.length < 2 ^ 62 ∧
      ((((w.length : Int) != 0) = true ∧ (w == Str.ofString "") = false) ∨ ((((w.length : Int) != 0) = false) ∧ q = true)) ∧ Toks b (p2 + 1) ws
noncomputable abbrev lexLed (P : Params) (κ τ κs : Nat → Tok) (x d sx sd pb fs : Addr) (b : Str) (st : Value) (pos ln : Int) (tb tp tl tt : Tok) (nq mq : Int) (rest : List (Addr × Obj)) : List (Addr × Obj) :=
  (x, instObj 746 d) :: (d, lexD P κ τ sx pb fs st ln tl (Str.ofString "") tt) :: (sx, instObj 611 sd) :: (sd, sioD P κs b pos tb tp) :: (pb, dqObj nq) :: (fs, dqObj mq) :: rest
theorem c_iter : Wants PySem.Challenge.rw_in0077_01 Mine.K → ∀ (prog : Program) (w : World) (p : Program) (loose : List Str) (mean : ExcName → Option Value) (mg mb : Str → Option Value) (news : List (Addr × Obj)) (x : Addr),
  Claim prog w (Mine.K w.params) p loose mean mg mb news 2 20 (call (.ref 736) [.ref x]) (fun v news' => v = .ref x ∧ news' = news) := by
  k_fill
  intro _ prog w p loose mean mg mb news x dp un gd cn cs a ccd cl outer A₀ base h₀ L m s Q E B F X N T hk hd hu hret
  walk_at "ENTER"
  k_steps
  all_goals (refine' hret _ _ _ _ ?o1 ?f1 ?n1; (case f1 => k_asm); (case n1 => k_asm); (case o1 => exact ⟨rfl, rfl⟩))
theorem lst_loop : Wants PySem.Challenge.rw_in0077_01 Mine.K → ∀ (prog : Program) (w : World) (p : Program) (loose : List Str) (mean : ExcName → Option Value) (mg mb : Str → Option Value) (rest : List (Addr × Obj)) (κ τ κs : Nat → Tok) (x d sx sd pb fs S : Addr) (b : Str) (tb : Tok) (nq mq : Int),
  x ≠ d → x ≠ sd → sx ≠ d → sx ≠ sd → d ≠ sd → sd ≠ d → pb ≠ d → pb ≠ sd → fs ≠ d → fs ≠ sd → (∀ q ∈ rest, q.1 ≠ d) → (∀ q ∈ rest, q.1 ≠ sd) → S ≠ x → S ≠ d → S ≠ sx → S ≠ sd → S ≠ pb → S ≠ fs → (∀ q ∈ rest, q.1 ≠ S) → b.length < 2 ^ 20 →
  ∀ (dp un : Nat) (gd : Option (List Code)) (cn : Str) (cs : Scope) (a : Addr) (ccd : Value) (outer : List Env) (A₀ : Around) (base h₀ : Heap) (L : Addr) (m : Str → Option Value) (R : Result → Shared → Prop),
  Below A₀ base outer h₀ → (Mine.K w.params).In h₀ → Top p loose mean mg mb h₀ → cs.kind = .function → dp + 16 < recursionLimit → un + 260 < cLine →
  ∀ (ws : List Str) (acc : List Value) (got : List Str) (n : Nat) (pos ln : Int) (tp tl tt tst : Tok) (s : Shared), Toks b pos ws → TextsAre acc got → acc.length + ws.length ≤ 2 ^ 20 → Fr h₀ L s.heap m →
  News h₀ L s.heap (lexLed w.params κ τ κs x d sx sd pb fs b (.str (Str.ofString " ") tst) pos ln tb tp tl tt nq mq ((S, listOf acc.toArray n) :: rest)) →
  (∀ g' h' tk' vs n' ln' tp' tl' tt', TextsAre vs (got ++ ws) → KtsTurn (outer.filterMap (·.frame)) h₀ g' → Fr g' L h' m → News g' L h' (lexLed w.params κ τ κs x d sx sd pb fs b .none b.length ln' tb tp' tl' tt' nq mq ((S, listOf vs.toArray n') :: rest)) → Below A₀ base outer g' → R (.ok (.ret .none)) { s with heap := h', toks := tk' }) →
  codeAny (model prog w) (ktrTop dp un gd cn cs L a ccd [] outer) (.builtin "list.extend.loop" ⟨[.ref S, .ref x, .none], []⟩) R s := by
  k_fill
  intro _ prog w p loose mean mg mb rest κ τ κs x d sx sd pb fs S b tb nq mq n1 n2 n3 n4 n5 n6 m1 m2 m3 m4 hr1 hr2 s1 s2 s3 s4 s5 s6 hr3 hb dp un gd cn cs a ccd outer A₀ base h₀ L m R B X T hk hd hu ws
  have hi : findIn (Mine.K w.params) (.ref 746) "__next__" = some (some (.ref 743)) := by k_is
  have hf : isFn (Mine.K w.params) (.ref 743) = true := by k_is
  induction ws with
  | nil =>
    intro acc got n pos ln tp tl tt tst s hT hacc hl F N hR
    refine codeAny_builtin PySem.F.entry_extend_loop ?_
    rw [Around.under_plainId PySem.F.plain_extend_loop _]
    show wpAny _ _ (pyNext (.ref x) >>= _) _ _ s
    refine wpAny_bind ?_
    refine owit_next (C := 746) (f := 743) F X (InstAt.of_news N (.head _) (.tail _ (.head _))) hi hf ?_
    refine ClaimE.use (c_next_end trivial prog w p loose mean mg mb ((S, listOf acc.toArray n) :: rest) κ τ κs x d sx sd pb fs b pos ln tb tp tl tt tst nq mq n1 n2 n3 n4 n5 n6 m1 m2 m3 m4 (List.forall_mem_cons.mpr ⟨s2, hr1⟩) (List.forall_mem_cons.mpr ⟨s4, hr2⟩) hT hb) B F X N T hk (by ktr_room) (by ktr_units) ?_
    intro e t g vs news' h' tk' hE hFg hRS hU
    obtain ⟨rfl, tp', tl', tt', ln', rfl⟩ := hE
    refine owit_stopS B hFg hRS hU sub_stop ?_
    intro g' T' F' N' B'
    exact wpAny_pure (hR g' h' tk' acc n ln' tp' tl' tt' (by rw [List.append_nil]; exact hacc) T' F' N' B')
  | cons wd ws ih =>
    intro acc got n pos ln tp tl tt tst s hT hacc hl F N hR
    obtain ⟨q, p2, hS, hc, hp0, hp1, ht1, ht3, hT2⟩ := hT
    refine codeAny_builtin PySem.F.entry_extend_loop ?_
    rw [Around.under_plainId PySem.F.plain_extend_loop _]
    show wpAny _ _ (pyNext (.ref x) >>= _) _ _ s
    refine wpAny_bind ?_
    refine owit_next (C := 746) (f := 743) F X (InstAt.of_news N (.head _) (.tail _ (.head _))) hi hf ?_
    refine Claim.use (c_next trivial prog w p loose mean mg mb ((S, listOf acc.toArray n) :: rest) κ τ κs x d sx sd pb fs b pos ln tb tp tl tt tst nq mq wd q p2 n1 n2 n3 n4 n5 n6 m1 m2 m3 m4 (List.forall_mem_cons.mpr ⟨s2, hr1⟩) (List.forall_mem_cons.mpr ⟨s4, hr2⟩) hS hc hp0 hp1 hb ht1 ht3) B F X N T hk (by ktr_room) (by ktr_units) ?_
    intro v news' h' tk' hO F' N'
    obtain ⟨t, tp', tl', tt', tst', ln', rfl, rfl⟩ := hO
    have hS' : h'.get? S = some (listOf acc.toArray n) := (N' (S, listOf acc.toArray n) (by simp)).1
    show wpAny _ _ (updateSeq S (·.push (.str wd t)) >>= _) _ _ _
    refine wpAny_bind ?_
    have hSN := (N' (S, listOf acc.toArray n) (by simp)).2
    have hlen : acc.length + ws.length + 1 ≤ 2 ^ 20 := by rw [List.length_cons] at hl; omega
    have hU : (h'.update S (Obj.mapSeq (·.push (Value.str wd t)))).get? S = some (listOf (acc ++ [Value.str wd t]).toArray (n + 1)) := (Heap.get?_update_self _ hS' rfl).trans (congrArg some (seq_push acc _ n))
    refine wpAny_updateSeq hS' rfl (wpAny_pure ⟨plainId_quiet PySem.F.plain_extend_loop _, ih (acc ++ [Value.str wd t]) (got ++ [wd]) (n + 1) (p2 + 1) ln' tp' tl' tt' tst' _ hT2 (hacc.snoc ⟨t, rfl⟩) (by rw [List.length_append, List.length_singleton]; omega) (F'.change (Heap.SameBut.update ..) hSN.1 hSN.2) ?_ ?_⟩) ?_ ?_
    · refine news_S (pre := lexLed w.params κ τ κs x d sx sd pb fs b (.str (Str.ofString " ") tst') (p2 + 1) ln' tb tp' tl' tt' nq mq []) N' (fun q hq => ?_) hr3 (fun c o hc e => (Heap.get?_update_other _ _ (Ne.symm hc)).trans e) hU
      simp only [List.mem_cons, List.not_mem_nil, or_false] at hq
      rcases hq with rfl | rfl | rfl | rfl | rfl | rfl
      · exact Ne.symm s1
      · exact Ne.symm s2
      · exact Ne.symm s3
      · exact Ne.symm s4
      · exact Ne.symm s5
      · exact Ne.symm s6
    · intro g' h9 tk9 vs n9 ln9 tp9 tl9 tt9 hv T9 F9 N9 B9
      exact hR g' h9 tk9 vs n9 ln9 tp9 tl9 tt9 (by rw [List.append_assoc] at hv; exact hv) T9 F9 N9 B9
    · show acc.toArray.size ≤ sizeLine
      rw [List.size_toArray, sizeLine_eq]
      omega
    · show (acc.toArray.push _).size ≤ sizeLine + 1
      rw [Array.size_push, List.size_toArray, sizeLine_eq]
      omega
theorem lst_call : Wants PySem.Challenge.rw_in0077_01 Mine.K → ∀ (prog : Program) (w : World) (p : Program) (loose : List Str) (mean : ExcName → Option Value) (mg mb : Str → Option Value) (rest : List (Addr × Obj)) (κ τ κs : Nat → Tok) (x d sx sd pb fs : Addr) (b : Str) (tb : Tok) (nq mq : Int),
  x ≠ d → x ≠ sd → sx ≠ d → sx ≠ sd → d ≠ sd → sd ≠ d → pb ≠ d → pb ≠ sd → fs ≠ d → fs ≠ sd → (∀ q ∈ rest, q.1 ≠ d) → (∀ q ∈ rest, q.1 ≠ sd) → b.length < 2 ^ 20 →
  ∀ (dp un : Nat) (gd : Option (List Code)) (cn : Str) (cs : Scope) (a : Addr) (ccd : Value) (outer : List Env) (A₀ : Around) (base h₀ : Heap) (L : Addr) (m : Str → Option Value) (Q E : Value → Shared → Prop),
  Below A₀ base outer h₀ → (Mine.K w.params).In h₀ → Top p loose mean mg mb h₀ → cs.kind = .function → dp + 20 < recursionLimit → un + 280 < cLine →
  ∀ (ws : List Str) (pos ln : Int) (tp tl tt tst : Tok) (s : Shared), Toks b pos ws → ws.length ≤ 2 ^ 20 → Fr h₀ L s.heap m →
  News h₀ L s.heap (lexLed w.params κ τ κs x d sx sd pb fs b (.str (Str.ofString " ") tst) pos ln tb tp tl tt nq mq rest) →
  (∀ S g' h' tk' vs n', TextsAre vs ws → KtsTurn (outer.filterMap (·.frame)) h₀ g' → Fr g' L h' m → News g' L h' ((S, listOf vs.toArray n') :: rest) → Below A₀ base outer g' → Q (.ref S) { s with heap := h', toks := tk' }) →
  wpAny (model prog w) (ktrTop dp un gd cn cs L a ccd [] outer) (call (.type "list") [.ref x]) Q E s := by
  k_fill
  intro hW prog w p loose mean mg mb rest κ τ κs x d sx sd pb fs b tb nq mq n1 n2 n3 n4 n5 n6 m1 m2 m3 m4 hr1 hr2 hb dp un gd cn cs a ccd outer A₀ base h₀ L m Q E B X T hk hd hu ws pos ln tp tl tt tst s hT hl F N hQ
  have hi : findIn (Mine.K w.params) (.ref 746) "__iter__" = some (some (.ref 736)) := by k_is
  have hif : isFn (Mine.K w.params) (.ref 736) = true := by k_is
  have hn : findIn (Mine.K w.params) (.ref 746) "__next__" = some (some (.ref 743)) := by k_is
  have hlen : findIn (Mine.K w.params) (.ref 746) "__len__" = some none := by k_is
  have hhint : findIn (Mine.K w.params) (.ref 746) "__length_hint__" = some none := by k_is
  refine callType_codes (Q₁ := fun obj s₁ => obj = .ref s.heap.objs.size ∧ s₁ = { s with heap := s.heap.push { cls := .type "list", data := .seq #[] } }) PySem.F.called_list (PySem.F.typeCall_list_1 _) PySem.F.entry_list_init
    (code_list_new _ ⟨rfl, rfl⟩) fun obj s₁ h₁ => ?_
  obtain ⟨rfl, rfl⟩ := h₁
  have hS : (s.heap.push { cls := .type "list", data := .seq #[] }).get? s.heap.objs.size = some { cls := .type "list", data := .seq #[] } := Heap.get?_push_size _ rfl
  refine ⟨⟨_, hS, rfl⟩, PySem.F.args_list_init_2 _ _, ?_⟩
  have hlt := allLt_of fun q hq => Heap.lt_size (N q hq).1
  have hlt' : ∀ q ∈ rest, q.1 ≠ s.heap.objs.size := fun q hq => Nat.ne_of_lt (Heap.lt_size (N q (by simp [hq])).1)
  simp only [AllLt] at hlt
  obtain ⟨l1, l2, l3, l4, l5, l6, _⟩ := hlt
  have hF : Fr h₀ L (s.heap.push { cls := .type "list", data := .seq #[] }) m := F.push _
  have hN : News h₀ L (s.heap.push { cls := .type "list", data := .seq #[] }) ((s.heap.objs.size, { cls := .type "list", data := .seq #[] }) :: lexLed w.params κ τ κs x d sx sd pb fs b (.str (Str.ofString " ") tst) pos ln tb tp tl tt nq mq rest) := N.push F _
  generalize hSg : s.heap.objs.size = S at *
  have hall : ∀ q ∈ lexLed w.params κ τ κs x d sx sd pb fs b (.str (Str.ofString " ") tst) pos ln tb tp tl tt nq mq rest, q.1 ≠ S := fun q hq => by
    rw [← hSg]; exact Nat.ne_of_lt (Heap.lt_size (N q hq).1)
  show wpAny _ _ (do let old ← Builtin.List.listItems (.ref S); Builtin.List.listUpdate (.ref S) (fun _ => #[]); letGo old.toList.reverse; Builtin.List.listExtendWith (.ref S) (.ref x) .none) _ _ _
  refine wpAny_bind ?_
  unfold Builtin.List.listItems
  refine wpAny_bind (wpAny_seqItems hS rfl (wpAny_pure ?_))
  show wpAny _ _ (updateSeq S (fun _ => #[]) >>= fun _ => letGo (#[] : Array Value).toList.reverse >>= fun _ => Builtin.List.listExtendWith (.ref S) (.ref x) .none) _ _ _
  refine wpAny_bind (wpAny_updateSeq hS rfl ?_)
  have hS₂ := Heap.get?_update_self (Obj.mapSeq (fun _ => (#[] : Array Value))) hS rfl
  obtain ⟨hF₂, hN₂⟩ := upd_S (f := Obj.mapSeq (fun _ => (#[] : Array Value))) hF hN hall (.inr trivial) rfl
  replace hN₂ := hN₂ hS₂
  refine wpAny_bind (wpAny_letGo ?_)
  dsimp only at hF₂ hN₂ ⊢
  generalize (s.heap.push { cls := .type "list", data := .seq #[] }).update S (Obj.mapSeq (fun _ => (#[] : Array Value))) = H₂ at hS₂ hF₂ hN₂ ⊢
  unfold Builtin.List.listExtendWith
  have hI : InstAt H₂ x (instObj 746 d) 746 (some (lexD w.params κ τ sx pb fs (.str (Str.ofString " ") tst) ln tl (Str.ofString "") tt)) := InstAt.of_news hN₂ (.tail _ (.head _)) (.tail _ (.tail _ (.head _)))
  have h1 : Builtin.List.listSameRef (.ref S) (.ref x) = false := by
    have : S ≠ x := fun e => hall _ List.mem_cons_self e.symm
    simp [Builtin.List.listSameRef, this]
  refine wpAny_bind (hI.type.here ?_)
  have h2 : (Value.ref 746 == Value.type "list") = false := by decide
  have h3 : (Value.ref 746 == Value.type "tuple") = false := by decide
  simp only [h1, h2, h3, Bool.or_false, Bool.false_eq_true, if_false]
  refine wpAny_bind ?_
  refine owit_iter (C := 746) (f := 736) hF₂ X hI hi hif ?_
  refine Claim.use (c_iter hW prog w p loose mean mg mb _ x) B hF₂ X hN₂ T hk (by ktr_room) (by ktr_units) ?_
  intro v news' H₃ tk₃ hO hF₃ hN₃
  obtain ⟨rfl, rfl⟩ := hO
  have hI₃ : InstAt H₃ x (instObj 746 d) 746 (some (lexD w.params κ τ sx pb fs (.str (Str.ofString " ") tst) ln tl (Str.ofString "") tt)) := InstAt.of_news hN₃ (.tail _ (.head _)) (.tail _ (.tail _ (.head _)))
  refine owit_it (C := 746) hF₃ X hI₃ hn ?_
  refine wpAny_bind (wpAny_holding ?_)
  unfold Builtin.List.listLengthHint
  have X₃ := X.keeps hF₃.keep
  refine wpAny_bind (wpAny_bind (hI₃.type.here ((looks_findIn X₃ hlen).here ?_)))
  refine wpAny_bind (wpAny_bind (hI₃.type.here ((looks_findIn X₃ hhint).here ?_)))
  refine wpAny_pure ?_
  show wpAny _ _ (rule "list.extend.makes-room" >>= fun _ => Builtin.List.listTouch (.ref S) >>= fun _ => again (.builtin "list.extend.loop" ⟨[.ref S, .ref x, .none], []⟩)) _ _ _
  refine wpAny_bind (wpAny_rule ?_)
  refine wpAny_bind ?_
  show wpAny _ _ (updateSeq S (·.push .none) >>= fun _ => updateSeq S (·.pop)) _ _ _
  have hS₃ := (hN₃ _ List.mem_cons_self).1
  dsimp only at hS₃
  refine wpAny_bind (wpAny_updateSeq hS₃ rfl ?_)
  have hS₄ := Heap.get?_update_self (Obj.mapSeq (·.push Value.none)) hS₃ rfl
  obtain ⟨hF₄, hN₄⟩ := upd_S (f := Obj.mapSeq (·.push Value.none)) hF₃ hN₃ hall (.inr trivial) rfl
  replace hN₄ := hN₄ hS₄
  refine wpAny_updateSeq (hz := by seq_fits) hS₄ rfl ?_
  have hS₅ := Heap.get?_update_self (Obj.mapSeq (·.pop)) hS₄ rfl
  obtain ⟨hF₅, hN₅⟩ := upd_S (f := Obj.mapSeq (·.pop)) hF₄ hN₄ hall (.inr trivial) rfl
  replace hN₅ := hN₅ hS₅
  have hx : ∀ q ∈ rest, q.1 ≠ S := fun q hq => hall q (by simp [hq])
  refine wpAny_pure ⟨plainId_quiet PySem.F.plain_extend_loop _, lst_loop hW prog w p loose mean mg mb rest κ τ κs x d sx sd pb fs S b tb nq mq n1 n2 n3 n4 n5 n6 m1 m2 m3 m4 hr1 hr2 ?_ ?_ ?_ ?_ ?_ ?_ hx hb _ _ _ _ _ _ _ _ _ _ _ _ _ _ B X T hk ?_ ?_ ws [] [] 2 pos ln tp tl tt tst _ hT trivial (by simpa using hl) hF₅ (news_mid (pre := lexLed w.params κ τ κs x d sx sd pb fs b (.str (Str.ofString " ") tst) pos ln tb tp tl tt nq mq []) hN₅) ?_⟩
  · exact fun e => hall _ (.head _) e.symm
  · exact fun e => hall _ (.tail _ (.head _)) e.symm
  · exact fun e => hall _ (.tail _ (.tail _ (.head _))) e.symm
  · exact fun e => hall _ (.tail _ (.tail _ (.tail _ (.head _)))) e.symm
  · exact fun e => hall _ (.tail _ (.tail _ (.tail _ (.tail _ (.head _))))) e.symm
  · exact fun e => hall _ (.tail _ (.tail _ (.tail _ (.tail _ (.tail _ (.head _)))))) e.symm
  · ktr_room
  · ktr_units
  · intro g' h9 tk9 vs n9 ln9 tp9 tl9 tt9 hv T9 F9 N9 B9
    exact ⟨rfl, hQ S g' h9 tk9 vs n9 hv T9 F9 (fun q hq => N9 q (.tail _ (.tail _ (.tail _ (.tail _ (.tail _ (.tail _ hq))))))) B9⟩
section
theorem wp_laid {α : Type} {M : Model} {A : Around} {E : Value → Shared → Prop} {Q : α → Shared → Prop} {s : Shared} {o : Obj} {k : Addr → Sem α} (q : wpAny M A (k s.heap.objs.size) Q E { s with heap := s.heap.push o }) (t : Sem α) (e : peekA [] ⟨M.prog, M.w.params⟩ t = some (o, k)) : wpAny M A t Q E s := by
  induction t with
  | rule _ _ ih | point _ _ ih => exact fun a b c => ih () e a b c
  | ask _ ih => exact fun a b c => ih ⟨M.prog, M.w.params⟩ e a b c
  | alloc =>
    cases Option.some.inj e
    exact wpAny_bind (m := alloc o) (f := k) (wpAny_alloc q)
  | _ => cases e
noncomputable def twice {α : Type} (K : Frag) (S : Setting) (t : Sem α) (x y : Addr) : Option (Obj × Obj × α) :=
  (peekA K S t).bind fun p => (peekA K S (p.2 x)).bind fun q => (peek K S (q.2 y)).map fun r => (p.1, q.1, r)
theorem wp_twice {α : Type} {K : Frag} {M : Model} {A : Around} {E : Value → Shared → Prop} {Q : α → Shared → Prop} {s : Shared} {h₀ : Heap} {L : Addr} {m : Str → Option Value} {news : List (Addr × Obj)} {o : Obj} {f : Addr → Obj} {r : Addr → Addr → α} {t : Sem α}
    (F : Fr h₀ L s.heap m) (N : News h₀ L s.heap news) (X : K.In h₀) (e : ∀ x y, twice K ⟨M.prog, M.w.params⟩ t x y = some (o, f x, r x y)) (fo : o.isFreed = false) (ff : ∀ x, (f x).isFreed = false)
    (h : ∀ x y h', (∀ q ∈ (x, o) :: news, q.1 < y) → (∀ q ∈ news, q.1 < x) → Fr h₀ L h' m → News h₀ L h' ((y, f x) :: (x, o) :: news) → Q (r x y) { s with heap := h' }) : wpAny M A t Q E s := by
  obtain ⟨⟨o1, g1⟩, e1, -⟩ := Option.bind_eq_some_iff.mp (e 0 0)
  have step : ∀ x y, ∃ g2, peekA K ⟨M.prog, M.w.params⟩ (g1 x) = some (f x, g2) ∧ peek K ⟨M.prog, M.w.params⟩ (g2 y) = some (r x y) ∧ o1 = o := fun x y => by
    have k := e x y
    rw [twice, e1, Option.bind_some] at k
    obtain ⟨⟨_, g2⟩, e2, k⟩ := Option.bind_eq_some_iff.mp k
    obtain ⟨_, e3, k⟩ := Option.map_eq_some_iff.mp k
    cases k
    exact ⟨g2, e2, e3, rfl⟩
  obtain ⟨_, _, _, rfl⟩ := step 0 0
  refine wp_of_peekA F N (X.keeps F.keep) fo _ _ e1 fun h1 F1 N1 l1 => ?_
  obtain ⟨g2, e2, e3, _⟩ := step s.heap.objs.size h1.objs.size
  refine wp_of_peekA (s := { s with heap := h1 }) F1 N1 (X.keeps F1.keep) (ff _) _ _ e2 fun h2 F2 N2 l2 => ?_
  exact (Looks.of_peek (X.keeps F2.keep) e3).here (s := { s with heap := h2 }) (h _ _ _ l2 l1 F2 N2)
section
variable {prog : Program} {w : World} {A A₀ : Around} {s : Shared} {K : Frag} {L : Addr} {h₀ base : Heap} {m mg mb : Str → Option Value} {news : List (Addr × Obj)} {p : Program} {loose : List Str} {mean : ExcName → Option Value}
theorem code_both {env : Env} {outer : List Env} {R : Result → Shared → Prop} {name qual : Str} {params : Arguments} {body : List Stmt} {scope : Scope} {dV kV doc pm cdv ct oc : Value} {an od : Option Addr} {osl : Array (Option Value)} {f : Addr} {args : Args} {o1 o2 : Obj} {k1 : Addr → Sem (List (Str × Value))} {k2 : Addr → Addr → Sem (List (Str × Value))} {binds : Addr → Addr → List (Str × Value)}
    (B : Below A₀ base outer h₀) (F : Fr h₀ L s.heap m) (X₀ : K.In h₀) (N : News h₀ L s.heap news) (T : Top p loose mean mg mb h₀) (hA : A.frames = some (env :: outer)) (hf : env.frame = some L) (hke : env.scope.kind = .function)
    (ho : K.lookup f = some ⟨oc, od, .func (fnOf name qual params body scope dV kV doc pm an cdv ct), osl⟩) (hcd : codeIn K cdv qual = true) (hroom : A.depth < recursionLimit)
    (hp1 : ∀ S, peekA K S (bindArgs (fnOf name qual params body scope dV kV doc pm an cdv ct) args) = some (o1, k1)) (hp2 : ∀ S D1, peekA K S (k1 D1) = some (o2, k2 D1)) (hp3 : ∀ S D1 D2, peek K S (k2 D1 D2) = some (binds D1 D2)) (hf1 : o1.isFreed = false) (hf2 : o2.isFreed = false)
    (hloc : ∀ D1 D2, ∀ y ∈ binds D1 D2, scope.names.lookup y.1 = some .local)
    (h : ∀ D1 D2 g L' h₁, Fr h₀ L g m → Fr g L' h₁ (fun y => (binds D1 D2).reverse.lookup y) → News g L' h₁ ((D2, o2) :: (D1, o1) :: news) → Below A base (env :: outer) g → K.In g → Top p loose mean mg mb g →
      wpAny (model prog w) (A.deeper (envOf qual scope L' f cdv)) (execs body (envOf qual scope L' f cdv))
        (fun fl s' => LeaveK h₀ L m g R (match fl with | .ret v => v | _ => .none) s')
        (fun e s' => wpAny (model prog w) (A.deeper (envOf qual scope L' f cdv)) (leaving (envOf qual scope L' f cdv) e) (fun _ s'' => R (.error e) s'') (fun e' s'' => R (.error e') s'') s')
        { s with heap := h₁, toks := s.toks + (binds D1 D2).length })
    (hco : scope.isCoroutine = false) (hgen : scope.isGenerator = false) (hk : scope.kind = .function)
    (hcell : ∀ x ∈ scope.names, x.2 ≠ .cell) : codeAny (model prog w) A (.call (.ref f) args) R s := by
  refine codeAny_call_function (fd := fnOf name qual params body scope dV kV doc pm an cdv ct) (body := body) hroom ((X₀.keeps F.keep) _ _ ho) rfl hco hgen rfl (codeRec_of (X₀.keeps F.keep) hcd) ?_
  refine wp_of_peekA F N (X₀.keeps F.keep) hf1 _ _ (hp1 _) fun y F1 N1 _ => ?_
  refine wp_of_peekA (s := { s with heap := y }) F1 N1 (X₀.keeps F1.keep) hf2 _ _ (hp2 _ _) fun z F2 N2 _ => ?_
  refine (Looks.of_peek (M := model prog w) (X₀.keeps F2.keep) (hp3 _ _ _)).here (s := { s with heap := z }) ?_
  exact kp_frame (cl := []) (s := { s with heap := z }) B F2 N2 T.nolimit hA hf hke (hloc _ _) (fun g L' h₁ FG FL NG BG st => h _ _ g L' h₁ FG FL NG BG (X₀.keeps st) (T.keeps st)) hcell hk
end
structure Fresh2 (x d : Addr) (news : List (Addr × Obj)) : Prop where
  ne : @Ne Nat x d
  x : ∀ q ∈ news, @Ne Nat q.1 x
  d : ∀ q ∈ news, @Ne Nat q.1 d
theorem call_new611 {prog : Program} {w : World} {A : Around} {E Q : Value → Shared → Prop} {s : Shared} {h₀ : Heap} {L : Addr} {m : Str → Option Value} {news : List (Addr × Obj)} (F : Fr h₀ L s.heap m) (X : (Mine.K w.params).In h₀) (N : News h₀ L s.heap news)
    (h : ∀ x d h', Fresh2 x d news → Fr h₀ L h' m → News h₀ L h' ((x, instObj 611 d) :: (d, emptyDict) :: news) → Q (.ref x) { s with heap := h' }) :
    wpAny (model prog w) A (call (.builtin "object.__new__") [.ref 611]) Q E s := by
  refine wpAny_call (codeAny_call_builtin_at (Code.quiet_builtin _ PySem.F.objNew.quiet) PySem.F.objNew.entry ((Looks.of_peek (r := ()) (X.keeps F.keep) (by kernel_rfl)).here ?_))
  exact wp_twice F N X (o := emptyDict) (f := instObj 611) (r := fun _ y => .done (.ret (.ref y))) (fun x y => by kernel_rfl) rfl (fun _ => rfl) fun x y h' l2 l1 F' N' => h _ _ _ ⟨Nat.ne_of_gt (l2 _ (.head _)), fun q hq => Nat.ne_of_lt (l2 _ (.tail _ hq)), fun q hq => Nat.ne_of_lt (l1 _ hq)⟩ F' N'
theorem new611 {prog : Program} {w : World} {A : Around} {E Q : Value → Shared → Prop} {s : Shared} {h₀ : Heap} {L : Addr} {m : Str → Option Value} {news : List (Addr × Obj)}
    (h : ∀ x d h', Fresh2 x d news → Fr h₀ L h' m → News h₀ L h' ((x, instObj 611 d) :: (d, emptyDict) :: news) → Q (.ref x) { s with heap := h' }) (F : Fr h₀ L s.heap m := by k_asm) (X : (Mine.K w.params).In h₀ := by k_asm) (N : News h₀ L s.heap news := by k_asm) :
    wpAny (model prog w) A (call (.builtin "object.__new__") [.ref 611]) Q E s := call_new611 F X N h
local macro_rules | `(tactic| walk_at "call builtin:object.__new__") => `(tactic| (k_dflt (refine new611 ?_); intros; (try k_sweep)))
theorem c_ionew : Wants PySem.Challenge.rw_in0077_01 Mine.K → ∀ (prog : Program) (w : World) (p : Program) (loose : List Str) (mean : ExcName → Option Value) (mg mb : Str → Option Value) (news : List (Addr × Obj)) (b : Str) (tb : Tok),
  Claim prog w (Mine.K w.params) p loose mean mg mb news 3 30 (call (.ref 104) [.ref 611, .str b tb]) (fun v news' => ∃ x d, v = .ref x ∧ Fresh2 x d news ∧ news' = (x, instObj 611 d) :: (d, dictOf [] 0) :: news) := by
  k_fill
  intro _ prog w p loose mean mg mb news b tb dp un gd cn cs a ccd cl outer A₀ base h₀ L m s Q E B F X N T hk hd hu hret
  refine wpAny_call ?_
  refine' code_both ?k1 ?k2 ?k3 ?k4 ?k5 ?kA ?kF ?kK ?k6 ?k7 ?k8 ?kp1 ?kp2 ?kp3 ?kf1 ?kf2 ?kB ?_ ?c2 ?c3 ?c4 ?c5
  case kA => exact rfl
  case kF => exact rfl
  case kK => assumption
  case k1 => k_asm
  case k2 => k_asm
  case k3 => k_asm
  case k4 => k_asm
  case k5 => k_asm
  case k6 => walk_at "Mine.KN"
  case k7 => k_is
  case k8 => ktr_room
  case kp1 => intro S; exact rfl
  case kp2 => intro S D1; exact rfl
  case kp3 => intro S D1 D2; exact rfl
  case kf1 => rfl
  case kf2 => rfl
  case kB => intro D1 D2; exact locs rfl
  case c2 => exact rfl
  case c3 => exact rfl
  case c4 => exact rfl
  case c5 => decide
  intro D1 D2 g' L' h' FG' F' N' B' X' T'
  try dsimp only
  try k_fold
  k_steps
  all_goals ((rename Fresh2 _ _ _ => q9); (rename News h₀ _ _ _ => N9); refine' hret _ _ _ _ ⟨_, _, rfl, ⟨q9.ne, fun q hq => q9.x q (.tail _ (.tail _ hq)), fun q hq => q9.d q (.tail _ (.tail _ hq))⟩, rfl⟩ ?f9 ?n9; (case f9 => k_asm); (case n9 => exact fun q hq => N9 q (by rcases List.mem_cons.mp hq with rfl | hq; exact .head _; rcases List.mem_cons.mp hq with rfl | hq; exact .tail _ (.head _); exact .tail _ (.tail _ (.tail _ (.tail _ hq))))))
end
noncomputable def tk4 (a b c d : Tok) : Nat → Tok
  | 0 => a
  | 1 => b
  | 2 => c
  | _ => d
theorem c_sioinit : Wants PySem.Challenge.rw_in0077_01 Mine.K → ∀ (prog : Program) (w : World) (p : Program) (loose : List Str) (mean : ExcName → Option Value) (mg mb : Str → Option Value) (news : List (Addr × Obj)) (x d : Addr) (b : Str) (tb : Tok), x ≠ d → (∀ q ∈ news, q.1 ≠ d) →
  Claim prog w (Mine.K w.params) p loose mean mg mb ((x, instObj 611 d) :: (d, dictOf [] 0) :: news) 6 60 (call (.ref 381) [.ref x, .str b tb]) (fun v news' => ∃ κ tp, v = .none ∧ news' = (x, instObj 611 d) :: (d, sioD w.params κ b 0 tb tp) :: news) := by
  k_fill
  intro _ prog w p loose mean mg mb news x d b tb hx hn dp un gd cn cs a ccd cl outer A₀ base h₀ L m s Q E B F X N T hk hd hu hret
  walk_at "ENTER"
  k_steps
  all_goals (refine' hret _ _ _ _ ?o1 ?f1 ?n1; (case f1 => k_asm); (case n1 => k_asm); (case o1 => exact ⟨tk4 _ _ _ _, _, rfl, rfl⟩))
theorem with_cls {K : Frag} {f : Addr} {oc : Value} {od : Option Addr} {osl : Array (Option Value)} {cd : ClassData} {P : Prop}
    (h : K.lookup f = some ⟨oc, od, .cls cd, osl⟩) (k : K.lookup f = some ⟨oc, od, .cls cd, osl⟩ → P) : P := k h
theorem c_sio : Wants PySem.Challenge.rw_in0077_01 Mine.K → ∀ (prog : Program) (w : World) (p : Program) (loose : List Str) (mean : ExcName → Option Value) (mg mb : Str → Option Value) (news : List (Addr × Obj)) (b : Str) (tb : Tok),
  Claim prog w (Mine.K w.params) p loose mean mg mb news 8 80 (call (.ref 611) [.str b tb]) (fun v news' => ∃ x d κ tp, v = .ref x ∧ Fresh2 x d news ∧ news' = (x, instObj 611 d) :: (d, sioD w.params κ b 0 tb tp) :: news) := by
  k_fill
  intro hW prog w p loose mean mg mb news b tb dp un gd cn cs a ccd cl outer A₀ base h₀ L m s Q E B F X N T hk hd hu hret
  refine' with_cls (K := Mine.K w.params) (f := 611) ?h ?_
  case h => k_is
  intro hK'
  have X' := X.keeps F.keep
  have hC := X' _ _ hK'
  have call1 : Looks (model prog w) s.heap (specialOf (.ref 611) "__call__") (some (.builtin "type.__call__")) := looks_specialIn X' (by k_is)
  have typ : Looks (model prog w) s.heap (isInstance (.ref 611) (.type "type")) true := looks_instIn X' (by k_is)
  have made : Looks (model prog w) s.heap (Bind.madeBy (.ref 611)) none := Looks.of_peek X' (by kernel_rfl)
  refine wpAny_call (codeAny_of_tree ?_)
  show wpAny _ _ (callAny (.ref 611) _) _ _ _
  refine nd_load hC ?_
  show wpAny _ _ (callAny.viaDunder (.ref 611) _) _ _ _
  unfold callAny.viaDunder
  refine wpAny_bind (call1.at ?_)
  dsimp only
  rw [tc_bind]
  refine wpAny_bind (wpAny_pure (wpAny_bind (wpAny_pure ?_)))
  refine wpAny_pure (a := Fin.again (.call (.builtin "type.__call__") ⟨.ref 611 :: [.str b tb], []⟩)) (And.intro rfl ?_)
  refine codeAny_call_builtin_at (Code.quiet_builtin _ (by decide +kernel)) entry_typeCall ?_
  with_reducible refine check_slot tc_kind tc_split typ ?_ ?_
  exact tc_args _ _ _
  unfold Builtin.«type.__call__»
  have hm : Looks (model prog w) s.heap (mroOf (.ref 611)) _ := ((Looks.ld (part := none) hC).andThen .now).andThen .now
  repeat (first | simp only [List.isEmpty_cons, Bool.false_eq_true, if_false] | ((fail_if_success (with_reducible show wpAny _ _ (getAttr _ _ _) _ _ _)); lk))
  refine' cls_sm (p := 108) (mc := .type "type") F X ?hm ?hr ?e ?hp ?hv ?_
  case hm => k_is
  case hr => k_is
  case e => k_is
  case hp => k_is
  case hv => k_handed
  refine wpAny_bind (wpAny_holding ?_)
  refine Claim.use (c_ionew hW prog w p loose mean mg mb news b tb) B F X N T hk (by (show dp + 1 + 3 < _); omega) (by (show un + 1 + 30 < _); omega) ?_
  intro v news' h1 tk1 hO F1 N1
  obtain ⟨x, d, rfl, hfr, rfl⟩ := hO
  have I1 : InstAt h1 x (instObj 611 d) 611 (some (dictOf [] 0)) := InstAt.of_news N1 (.head _) (.tail _ (.head _))
  have X1 := X.keeps F1.keep
  have sub1 : Looks (model prog w) h1 (isSubtype (.ref 611) (.ref 611)) true := looks_subIn X1 (by k_is)
  have t1 : Looks (model prog w) h1 (isInstance (.ref x) (.ref 611)) true := I1.type.andThen sub1
  refine wpAny_bind (t1.here ?_)
  simp only [Bool.not_true, Bool.false_eq_true, if_false]
  refine wpAny_bind (wpAny_holding ?_)
  refine special_fn (f := 381) X1 I1 ?hi ?hf ?_
  case hi => k_is
  case hf => k_is
  refine Claim.use (c_sioinit hW prog w p loose mean mg mb news x d b tb hfr.ne hfr.d) B F1 X N1 T hk (by (show dp + 1 + 6 < _); omega) (by (show un + 1 + 60 < _); omega) ?_
  intro v2 news2 h2 tk2 hO2 F2 N2
  obtain ⟨κ, tp, rfl, rfl⟩ := hO2
  refine wpAny_pure ?_
  exact hret _ _ h2 tk2 ⟨x, d, κ, tp, rfl, hfr, rfl⟩ F2 N2
theorem use_c_sio {prog : Program} {w : World} {p : Program} {loose : List Str} {mean : ExcName → Option Value} {mg mb : Str → Option Value} {news : List (Addr × Obj)} {b : Str} {tb : Tok} {A : Around} {cn : Str} {cs : Scope} {a : Addr} {ccd : Value} {cl : List (Str × Addr)} {outer : List Env} {A₀ : Around} {base h₀ : Heap} {L : Addr} {m : Str → Option Value} {hp : Heap} {gs : Array GenState} {dr : Drawn} {tk9 : Nat} {os : OsState} {Q E : Value → Shared → Prop}
    (N : News h₀ L hp news) (ret : ∀ (x : Addr) (d : Addr) (κ : Nat → Tok) (tp : Tok) (h' : Heap) (tk' : Nat), Fresh2 x d news → Fr h₀ L h' m → News h₀ L h' ((x, instObj 611 d) :: (d, sioD w.params κ b 0 tb tp) :: news) → Q (.ref x) ⟨h', gs, dr, tk', os⟩)
    (B : Below A₀ base outer h₀ := by k_asm) (hA : A.frames = some (envX cn cs L a ccd cl :: outer) := by exact rfl) (hh : A.handled = none := by exact rfl) (F : Fr h₀ L hp m := by k_asm) (X : (Mine.K w.params).In h₀ := by k_asm) (T : Top p loose mean mg mb h₀ := by k_asm) (hk : cs.kind = .function := by first | exact rfl | assumption) (hd : A.depth + 8 < recursionLimit := by ktr_room) (hu : A.units + 80 < cLine := by ktr_units) :
    wpAny (model prog w) A (call (.ref 611) [.str b tb]) Q E ⟨hp, gs, dr, tk9, os⟩ := by
  refine Claim.useA (c_sio trivial _ _ _ _ _ _ _ _ _ _ ) hA hh B F X N T hk hd hu ?_
  rintro v n h' tk' ⟨x, d, κ, tp, rfl, q0, rfl⟩ F' N'
  exact ret x d κ tp h' tk' q0 F' N'
theorem mro_dq : mroOf (.type "collections.deque") = pure [.type "collections.deque", .type "object"] := by rw [mroOf_type]; kernel_rfl
theorem lookup_dq_new : typeLookup (.type "collections.deque") "__new__" = pure (some (.builtin "collections.deque.__new__")) := by rw [typeLookup_type, builtinLookup_eq_fast]; kernel_rfl
theorem slot_dq_init : Slot "collections.deque" "__init__" "collections.deque.__init__" :=
  .of (owner := "collections.deque") (n := "__init__") (by rw [typeLookup_type, builtinLookup_eq_fast]; kernel_rfl) (by decide +kernel) (by decide +kernel) (by decide +kernel)
    (by first | exact .inl (by decide +kernel) | exact .inr (by decide +kernel)) (by rw [isSubtype_type]; kernel_rfl)
theorem called_dq : TypeCalled "collections.deque" "collections.deque.__new__" "collections.deque.__init__" :=
  ⟨by decide +kernel, by decide +kernel, ⟨_, _, mro_dq⟩, madeBy_type mro_dq lookup_dq_new (by decide +kernel), by decide +kernel, by rw [isSubtype_type]; kernel_rfl, slot_dq_init⟩
theorem typeCall_dq : checkTypeCall "collections.deque" ⟨[], []⟩ = pure () := by kernel_rfl
theorem newCall_dq : checkBuiltinCall "collections.deque.__new__" ⟨[.type "collections.deque"], []⟩ = pure () := by kernel_rfl
theorem entry_dq_new : entryFor table "collections.deque.__new__" = some Builtin.«collections.deque.__new__» := entryFor_of_tree (by kernel_rfl)
theorem plain_dq_new : plainId "collections.deque.__new__" = true := by decide +kernel
theorem entry_dq_init : entryFor table "collections.deque.__init__" = some Builtin.«collections.deque.__init__» := entryFor_of_tree (by kernel_rfl)
theorem args_dq_init (a : Value) : argsOk "collections.deque.__init__" ⟨[a], []⟩ := by unfold argsOk; kernel_rfl
theorem frag_nil {h : Heap} : Frag.In [] h := fun _ _ e => nomatch e
theorem init_dq (S : Addr) : Builtin.«collections.deque.__init__» ⟨[.ref S], []⟩ = (setField (.ref S) 0 .none >>= fun _ => Builtin.Deque.clear (.ref S) >>= fun _ => ret .none) := by kernel_rfl
section
variable {prog : Program} {w : World} {A : Around} {E : Value → Shared → Prop} {s : Shared}
theorem code_dq_new {Q₁ : Value → Shared → Prop} (h : Q₁ (.ref s.heap.objs.size) { s with heap := s.heap.push (dqObj 0) }) :
    codeAny (model prog w) A (.call (.builtin "collections.deque.__new__") ⟨[.type "collections.deque"], []⟩) (wants Q₁ E) s := by
  refine codeAny_of_tree ?_
  show wpAny _ A.in1 (do checkBuiltinCall "collections.deque.__new__" ⟨[.type "collections.deque"], []⟩; again (.builtin "collections.deque.__new__" ⟨[.type "collections.deque"], []⟩)) _ _ s
  refine wpAny_bind (wpAny_of_eq newCall_dq (wpAny_pure ⟨plainId_quiet plain_dq_new _, codeAny_builtin entry_dq_new ?_⟩))
  rw [Around.under_plainId plain_dq_new _]
  exact wp_laid (o := dqObj 0) (k := fun D => pure (.done (.ret (.ref D)))) (wpAny_pure h) _ (by kernel_rfl)
theorem call_deque {Q : Value → Shared → Prop} (h : ∀ h', h'.get? s.heap.objs.size = some (dqObj 0) → Heap.SameBut s.heap.objs.size (s.heap.push (dqObj 0)) h' → Q (.ref s.heap.objs.size) { s with heap := h' }) :
    wpAny (model prog w) A (call (.type "collections.deque") []) Q E s := by
  refine callType_codes (Q₁ := fun obj s₁ => obj = .ref s.heap.objs.size ∧ s₁ = { s with heap := s.heap.push (dqObj 0) }) called_dq typeCall_dq entry_dq_init (code_dq_new ⟨rfl, rfl⟩) fun obj s₁ h₁ => ?_
  obtain ⟨rfl, rfl⟩ := h₁
  have hS : (s.heap.push (dqObj 0)).get? s.heap.objs.size = some (dqObj 0) := Heap.get?_push_size _ rfl
  refine ⟨⟨_, hS, rfl⟩, args_dq_init _, ?_⟩
  rw [init_dq]
  refine wpAny_bind (wpAny_setField_rec hS (by decide) fun h' e sb => ?_)
  refine wpAny_bind ?_
  unfold Builtin.Deque.clear Builtin.Deque.items fieldsOf
  refine wpAny_bind (wpAny_bind (wpAny_bind (wpAny_load e (wpAny_pure (wpAny_pure ?_)))))
  show wpAny _ _ (pure ()) _ _ _
  exact wpAny_pure (wpAny_pure ⟨rfl, h h' e sb⟩)
end
theorem call_dequeK {prog : Program} {w : World} {A : Around} {E Q : Value → Shared → Prop} {s : Shared} {h₀ : Heap} {L : Addr} {m : Str → Option Value} {news : List (Addr × Obj)} (F : Fr h₀ L s.heap m) (N : News h₀ L s.heap news)
    (h : ∀ d h', (∀ q ∈ news, @Ne Nat q.1 d) → Fr h₀ L h' m → News h₀ L h' ((d, dqObj 0) :: news) → Q (.ref d) { s with heap := h' }) : wpAny (model prog w) A (call (.type "collections.deque") []) Q E s := by
  refine call_deque fun h' e sb => ?_
  have N1 := News.push F N (dqObj 0) rfl
  have F1 := F.push (dqObj 0)
  have hn : ∀ q ∈ news, @Ne Nat q.1 s.heap.objs.size := fun q hq => Nat.ne_of_lt (Heap.lt_size (N q hq).1)
  refine h _ h' hn (F1.change sb (N1 _ List.mem_cons_self).2.1 (N1 _ List.mem_cons_self).2.2) fun q hq => ?_
  rcases List.mem_cons.mp hq with rfl | hq
  · exact ⟨e, (N1 _ List.mem_cons_self).2⟩
  · exact ⟨sb.extBut _ _ (hn q hq) (N1 q (List.mem_cons_of_mem _ hq)).1, (N q hq).2⟩
section
noncomputable def tkL : List Tok → Nat → Tok
  | [], _ => 0
  | a :: _, 0 => a
  | _ :: r, n + 1 => tkL r n
noncomputable abbrev lexD0 (P : Params) (κ τ : Nat → Tok) (sx pb fs : Addr) (st : Value) (ln : Int) (tl : Tok) (tk : Str) (tt : Tok) : Obj :=
  dictOf [⟨PyData.keyHash P "instream", .str "instream" (κ 0), .ref sx⟩, ⟨PyData.keyHash P "infile", .str "infile" (κ 1), .none⟩, ⟨PyData.keyHash P "posix", .str "posix" (κ 2), .bool true⟩,
    ⟨PyData.keyHash P "eof", .str "eof" (κ 3), .none⟩, ⟨PyData.keyHash P "commenters", .str "commenters" (κ 4), .str "#" (τ 4)⟩, ⟨PyData.keyHash P "wordchars", .str "wordchars" (κ 5), .str wordC (τ 5)⟩,
    ⟨PyData.keyHash P "whitespace", .str "whitespace" (κ 6), .str " \t\r\n" (τ 6)⟩, ⟨PyData.keyHash P "whitespace_split", .str "whitespace_split" (κ 7), .bool false⟩, ⟨PyData.keyHash P "quotes", .str "quotes" (κ 8), .str "'\"" (τ 8)⟩,
    ⟨PyData.keyHash P "escape", .str "escape" (κ 9), .str "\\" (τ 9)⟩, ⟨PyData.keyHash P "escapedquotes", .str "escapedquotes" (κ 10), .str "\"" (τ 10)⟩, ⟨PyData.keyHash P "state", .str "state" (κ 11), st⟩,
    ⟨PyData.keyHash P "pushback", .str "pushback" (κ 12), .ref pb⟩, ⟨PyData.keyHash P "lineno", .str "lineno" (κ 13), .int ln tl⟩, ⟨PyData.keyHash P "debug", .str "debug" (κ 14), .int 0 (τ 14)⟩, ⟨PyData.keyHash P "token", .str "token" (κ 15), .str tk tt⟩,
    ⟨PyData.keyHash P "filestack", .str "filestack" (κ 16), .ref fs⟩, ⟨PyData.keyHash P "source", .str "source" (κ 17), .none⟩, ⟨PyData.keyHash P "_punctuation_chars", .str "_punctuation_chars" (κ 18), .str "" (τ 18)⟩] 19
structure LexApart (x d sx sd pb fs : Addr) (news : List (Addr × Obj)) : Prop where
  n1 : x ≠ d
  n2 : x ≠ sd
  n3 : sx ≠ d
  n4 : sx ≠ sd
  n5 : d ≠ sd
  n6 : sd ≠ d
  m1 : pb ≠ d
  m2 : pb ≠ sd
  m3 : fs ≠ d
  m4 : fs ≠ sd
  r1 : ∀ q ∈ news, q.1 ≠ d
  r2 : ∀ q ∈ news, q.1 ≠ sd
section
variable {a b c e f d : Addr} {o1 o2 o3 o4 o5 : Obj} {r : List (Addr × Obj)} {P : Prop}
theorem fa2 (h : ∀ q ∈ (a, o1) :: (b, o2) :: r, @Ne Nat q.1 d) (k : @Ne Nat a d → @Ne Nat b d → (∀ q ∈ r, @Ne Nat q.1 d) → P) : P := k (h _ (.head _)) (h _ (.tail _ (.head _))) fun q hq => h q (.tail _ (.tail _ hq))
theorem fa4 (h : ∀ q ∈ (a, o1) :: (b, o2) :: (c, o3) :: (e, o4) :: r, @Ne Nat q.1 d) (k : @Ne Nat a d → @Ne Nat b d → @Ne Nat c d → @Ne Nat e d → (∀ q ∈ r, @Ne Nat q.1 d) → P) : P := fa2 h fun x y z => fa2 z fun u v w => k x y u v w
theorem fa5 (h : ∀ q ∈ (a, o1) :: (b, o2) :: (c, o3) :: (e, o4) :: (f, o5) :: r, @Ne Nat q.1 d) (k : @Ne Nat a d → @Ne Nat b d → @Ne Nat c d → @Ne Nat e d → @Ne Nat f d → (∀ q ∈ r, @Ne Nat q.1 d) → P) : P := fa4 h fun x y z u w => k x y z u (w _ (.head _)) fun q hq => w q (.tail _ hq)
end
theorem news_lex {h₀ h : Heap} {L : Addr} {a b c d e f : Addr × Obj} {r : List (Addr × Obj)} (N : News h₀ L h (a :: b :: c :: d :: e :: f :: r)) : News h₀ L h (e :: f :: c :: d :: b :: a :: r) := fun p hp => by
  refine N p ?_
  revert p hp; walk_at "SUBM"
local macro_rules | `(tactic| walk_at "call ref") => `(tactic| (refine stop_here ?_))
local macro_rules | `(tactic| walk_at "call type:collections.deque") => `(tactic| (refine stop_here ?_))
theorem c_lexinit : Wants PySem.Challenge.rw_in0077_01 Mine.K → ∀ (prog : Program) (w : World) (p : Program) (loose : List Str) (mean : ExcName → Option Value) (mg mb : Str → Option Value) (news : List (Addr × Obj)) (b : Str) (tb : Tok),
  Claim prog w (Mine.K w.params) p loose mean mg mb news 14 200 (call (.ref 746) [.str b tb] [(Str.ofString "posix", .bool true)]) (fun v news' => ∃ x d sx sd pb fs κ τ κs tp tl tt tst nq mq, v = .ref x ∧ LexApart x d sx sd pb fs news ∧
    news' = (x, instObj 746 d) :: (d, lexD0 w.params κ τ sx pb fs (.str (Str.ofString " ") tst) 1 tl (Str.ofString "") tt) :: (sx, instObj 611 sd) :: (sd, sioD w.params κs b 0 tb tp) :: (pb, dqObj nq) :: (fs, dqObj mq) :: news) := by
  k_fill
  intro _ prog w p loose mean mg mb news b tb dp un gd cn cs a ccd cl outer A₀ base h₀ L m s Q E B F X N T hk hd hu hret
  refine' call_cls ?k1 ?k2 ?k3 ?k4 ?k5 ?k6 ?_
  case k1 => k_asm
  case k2 => k_asm
  case k3 => k_asm
  case k4 => k_is
  case k5 => k_is
  case k6 => k_is
  intro x' d' h' F' N' l1 l2
  have l3 : ∀ p ∈ news, @Ne Nat p.1 d' := fun p hp => Nat.ne_of_lt (l1 p hp)
  have l4 : ∀ p ∈ news, @Ne Nat p.1 x' := fun p hp => Nat.ne_of_lt (Nat.lt_trans (l1 p hp) l2)
  replace l2 := ltN l2
  k_enter
  k_steps
  refine stop_go ?_
  rename News _ _ _ _ => lN
  refine use_c_sio lN ?_
  clear lN
  intro x9 d9 κ9 tp9 h9 tk9 q9 F9 N9
  refine fa2 q9.x fun f1 f2 f3 => fa2 q9.d fun f4 f5 f6 => ?_
  have f7 := q9.ne
  clear q9
  try dsimp only
  try k_fold
  k_steps
  refine stop_go ?_
  rename News _ _ _ _ => lN
  refine call_dequeK (by k_asm) lN ?_
  clear lN
  intro e1 h1 a1 F1 N1
  refine fa4 a1 fun g1 g2 g3 g4 g5 => ?_
  clear a1
  try k_sweep
  k_steps
  refine stop_go ?_
  rename News _ _ _ _ => lN
  refine call_dequeK (by k_asm) lN ?_
  clear lN
  intro e2 h2 a2 F2 N2
  refine fa5 a2 fun i1 i2 i3 i4 i5 i6 => ?_
  clear a2
  try k_sweep
  k_steps
  all_goals ((rename News h₀ _ _ _ => N9); replace N9 := news_lex N9; refine' hret _ _ _ _ ?o1 ?f1 N9; (case f1 => k_asm); (case o1 => exact ⟨_, _, _, _, _, _, tkL [_, _, _, _, _, _, _, _, _, _, _, _, _, _, _, _, _, _, _], tkL [0, 0, 0, 0, _, _, _, 0, _, _, _, 0, 0, 0, _, 0, 0, 0, _], _, _, _, _, _, _, _, rfl, ⟨by k_ne, by k_ne, by k_ne, by k_ne, by k_ne, by k_ne, by k_ne, by k_ne, by k_ne, by k_ne, by assumption, by assumption⟩, rfl⟩))
end
theorem use_c_lexinit {prog : Program} {w : World} {p : Program} {loose : List Str} {mean : ExcName → Option Value} {mg mb : Str → Option Value} {news : List (Addr × Obj)} {b : Str} {tb : Tok} {A : Around} {cn : Str} {cs : Scope} {a : Addr} {ccd : Value} {cl : List (Str × Addr)} {outer : List Env} {A₀ : Around} {base h₀ : Heap} {L : Addr} {m : Str → Option Value} {hp : Heap} {gs : Array GenState} {dr : Drawn} {tk9 : Nat} {os : OsState} {Q E : Value → Shared → Prop}
    (N : News h₀ L hp news) (ret : ∀ (x d sx sd pb fs : Addr) (κ τ κs : Nat → Tok) (tp tl tt tst : Tok) (nq mq : Int) (h' : Heap) (tk' : Nat), LexApart x d sx sd pb fs news → Fr h₀ L h' m → News h₀ L h' ((x, instObj 746 d) :: (d, lexD0 w.params κ τ sx pb fs (.str (Str.ofString " ") tst) 1 tl (Str.ofString "") tt) :: (sx, instObj 611 sd) :: (sd, sioD w.params κs b 0 tb tp) :: (pb, dqObj nq) :: (fs, dqObj mq) :: news) → Q (.ref x) ⟨h', gs, dr, tk', os⟩)
    (B : Below A₀ base outer h₀ := by k_asm) (hA : A.frames = some (envX cn cs L a ccd cl :: outer) := by exact rfl) (hh : A.handled = none := by exact rfl) (F : Fr h₀ L hp m := by k_asm) (X : (Mine.K w.params).In h₀ := by k_asm) (T : Top p loose mean mg mb h₀ := by k_asm) (hk : cs.kind = .function := by first | exact rfl | assumption) (hd : A.depth + 14 < recursionLimit := by ktr_room) (hu : A.units + 200 < cLine := by ktr_units) :
    wpAny (model prog w) A (call (.ref 746) [.str b tb] [(Str.ofString "posix", .bool true)]) Q E ⟨hp, gs, dr, tk9, os⟩ := by
  refine Claim.useA (c_lexinit trivial _ _ _ _ _ _ _ _ _ _ ) hA hh B F X N T hk hd hu ?_
  rintro v n h' tk' ⟨x, d, sx, sd, pb, fs, κ, τ, κs, tp, tl, tt, tst, nq, mq, rfl, q0, rfl⟩ F' N'
  exact ret x d sx sd pb fs κ τ κs tp tl tt tst nq mq h' tk' q0 F' N'
section
variable {prog : Program} {w : World} {A₀ A : Around} {s : Shared} {base h₀ : Heap} {L : Addr} {m : Str → Option Value} {env : Env} {news : List (Addr × Obj)} {K : Frag} {p : Program} {loose : List Str} {mean : ExcName → Option Value} {mg mb : Str → Option Value}
  {R : Result → Shared → Prop} {name qual : Str} {params : Arguments} {body : List Stmt} {scope : Scope} {dV kV doc pm cdv ct oc : Value} {an od : Option Addr} {osl : Array (Option Value)} {f : Addr} {args : Args} {binds : List (Str × Value)}
theorem code_defS0X (B : Below A₀ base [] h₀) (F : Fr h₀ L s.heap m) (X₀ : K.In h₀) (N : News h₀ L s.heap news) (T : Top p loose mean mg mb h₀) (hA : A.frames = some [env]) (hf : env.frame = some L) (hke : env.scope.kind = .function)
    (ho : K.lookup f = some ⟨oc, od, .func (fnOf name qual params body scope dV kV doc pm an cdv ct), osl⟩) (hcd : codeIn K cdv qual = true) (hroom : A.depth < recursionLimit)
    (hbind : BindsTo s (fnOf name qual params body scope dV kV doc pm an cdv ct) args binds) (hloc : ∀ y ∈ binds, scope.names.lookup y.1 = some .local)
    (h : ∀ g L' h₁, Fr h₀ L g m → Fr g L' h₁ (fun y => binds.reverse.lookup y) → News g L' h₁ news → Below A base [env] g → K.In g → Top p loose mean mg mb g → KtsDicts ([env].filterMap (·.frame)) g →
      wpAny (model prog w) (A.deeper (envOf qual scope L' f cdv)) (execs body (envOf qual scope L' f cdv))
        (fun fl s' => LeaveS0 ([env].filterMap (·.frame)) h₀ L m g R (match fl with | .ret v => v | _ => .none) s')
        (fun e s' => wpAny (model prog w) (A.deeper (envOf qual scope L' f cdv)) (leaving (envOf qual scope L' f cdv) e) (fun _ s'' => R (.error e) s'') (fun e' s'' => R (.error e') s'') s')
        { s with heap := h₁, toks := s.toks + binds.length })
    (hco : scope.isCoroutine = false) (hgen : scope.isGenerator = false) (hk : scope.kind = .function)
    (hcell : ∀ x ∈ scope.names, x.2 ≠ .cell) : codeAny (model prog w) A (.call (.ref f) args) R s := by
  have X := X₀.keeps F.keep
  obtain ⟨FG, BG, st, _⟩ := groundX (R := R) B F N hA hf hke
  refine codeAny_call_def (fd := fnOf name qual params body scope dV kV doc pm an cdv ct) (body := body) (binds := binds) hroom (X _ _ ho) rfl (T.nolimit.keeps F.keep) (codeRec_of X hcd) rfl hbind hcell hloc (fun h₁ hns hk₁ => ?_) hco hgen hk
  have hL : [env].filterMap (·.frame) = [L] := by simp [hf]
  obtain ⟨oL, es, ep, hLg, hLd, hLk, hLf⟩ := FG.ns
  refine wpAny_mono (h _ s.heap.objs.size h₁ FG ⟨hns, fun b o e => hk₁ b o (of_hideAll _ e), Nat.le_of_eq (hideAll_size _ _)⟩
    (fun q hq => ⟨hk₁ _ _ (N q hq).1, Nat.ne_of_lt (Heap.lt_size (N q hq).1), hideAll_none _ (List.mem_map_of_mem hq)⟩) BG (X₀.keeps st) (T.keeps st) (fun b hb => by
      rw [hL] at hb
      obtain rfl : b = L := List.mem_singleton.mp hb
      exact ⟨oL, es, ep, hLg, hLd⟩)) (fun fl s' hl => ?_) fun _ _ y => y
  obtain ⟨g', L', m', news', T', F', N', k⟩ := hl
  have nL₀ : h₀.get? L = none := kts_self F
  obtain ⟨sl, hs⟩ := T'.up hLg
  refine k ⟨⟨_, es, ep, F'.keep _ _ hs, hLd, hLk, hLf⟩, fun b o e => F'.keep b o (T'.other b o (st b o e) (fun q => by
    rw [hL] at q
    obtain rfl : b = L := List.mem_singleton.mp q
    rw [nL₀] at e
    cases e)), F.above⟩ fun q hq => ⟨(N' q hq).1, fun z => ?_, ?_⟩
  · have := (N' q hq).2.2; rw [z, hs] at this; cases this
  · cases z : h₀.get? q.1 with
    | none => rfl
    | some o =>
      obtain ⟨sl', hs'⟩ := T'.up (st _ _ z)
      have := (N' q hq).2.2
      rw [hs'] at this
      cases this
end
section
variable {prog : Program} {w : World} {A₀ A : Around} {h base h₀ : Heap} {gs : Array GenState} {dr : Drawn} {t : Nat} {os : OsState} {L : Addr} {m : Str → Option Value} {env : Env} {news : List (Addr × Obj)} {K : Frag} {p : Program} {loose : List Str} {mean : ExcName → Option Value} {mg mb : Str → Option Value}
  {R : Result → Shared → Prop} {name qual : Str} {params : Arguments} {body : List Stmt} {scope : Scope} {dV kV doc pm cdv ct oc : Value} {an od : Option Addr} {osl : Array (Option Value)} {f : Addr} {args : Args} {binds : List (Str × Value)}
theorem ent0 {j i : Nat} (H : let bs := binds; let gs' := gs; let dr' := dr; let os' := os; ∀ g L' h₁ tk, Fr h₀ L g m → Fr g L' h₁ (fun y => bs.reverse.lookup y) → News g L' h₁ news → K.In g → Top p loose mean mg mb g → KtsDicts ([env].filterMap (·.frame)) g →
      let A' := A.deeper (envOf qual scope L' f cdv)
      A'.depth + j < recursionLimit → A'.units + i < cLine → Below A base [env] g →
      wpAny (model prog w) A' (execs body (envOf qual scope L' f cdv))
        (fun fl s' => LeaveS0 ([env].filterMap (·.frame)) h₀ L m g R (match fl with | .ret v => v | _ => .none) s')
        (fun e s' => wpAny (model prog w) A' (leaving (envOf qual scope L' f cdv) e) (fun _ s'' => R (.error e) s'') (fun e' s'' => R (.error e') s'') s')
        ⟨h₁, gs', dr', tk, os'⟩)
    (hA : A.frames = some [env] := by exact rfl) (hf : env.frame = some L := by exact rfl) (hke : env.scope.kind = .function := by first | exact rfl | assumption)
    (B : Below A₀ base [] h₀ := by k_asm) (F : Fr h₀ L h m := by k_asm) (X₀ : K.In h₀ := by k_asm) (N : News h₀ L h news := by k_asm) (T : Top p loose mean mg mb h₀ := by k_asm)
    (ho : K.lookup f = some ⟨oc, od, .func (fnOf name qual params body scope dV kV doc pm an cdv ct), osl⟩ := by walk_at "Mine.KN") (hcd : codeIn K cdv qual = true := by k_is) (hd : A.depth + (j + 1) < recursionLimit := by walk_at "RM") (hu : A.units + (i + 3) < cLine := by walk_at "RM")
    (hbind : BindsTo ⟨h, gs, dr, t, os⟩ (fnOf name qual params body scope dV kV doc pm an cdv ct) args binds := by first | exact BindsTo.of_eq rfl | exact binds_K (by k_in) rfl (by k_is) rfl rfl rfl) (hcell : ∀ x ∈ scope.names, x.2 ≠ .cell := by decide) (hloc : ∀ y ∈ binds, scope.names.lookup y.1 = some .local := by exact locs rfl)
    (hco : scope.isCoroutine = false := by exact rfl) (hgen : scope.isGenerator = false := by exact rfl) (hk : scope.kind = .function := by exact rfl) : codeAny (model prog w) A (.call (.ref f) args) R ⟨h, gs, dr, t, os⟩ :=
  code_defS0X B F X₀ N T hA hf hke ho hcd (rm0 hd) hbind hloc (fun g L' h₁ FG F' N' B' X' T' D' => H g L' h₁ _ FG F' N' X' T' D' (by show A.depth + 1 + j < _; omega) (by show A.units + 3 + i < _; omega) B') hco hgen hk hcell
end
structure AtBase (K : Frag) (p : Program) (loose : List Str) (mean : ExcName → Option Value) (mg mb : Str → Option Value) (base : Heap) : Prop where
  x : K.In base
  t : Top p loose mean mg mb base
noncomputable abbrev Claim0 (prog : Program) (w : World) (K : Frag) (p : Program) (loose : List Str) (mean : ExcName → Option Value) (mg mb : Str → Option Value) (news : List (Addr × Obj)) (dd uu : Nat) (cal : Sem Value) (Out : Value → List (Addr × Obj) → Prop) : Prop :=
  ∀ (dp un : Nat) (gd : Option (List Code)) (cn : Str) (cs : Scope) (a : Addr) (ccd : Value) (cl : List (Str × Addr)) (A₀ : Around) (base h₀ : Heap) (L : Addr) (m : Str → Option Value) (s : Shared) (Q E : Value → Shared → Prop),
    Below A₀ base [] h₀ → Fr h₀ L s.heap m → K.In h₀ → News h₀ L s.heap news → Top p loose mean mg mb h₀ → AtBase K p loose mean mg mb base → cs.kind = .function → dp + dd < recursionLimit → un + uu < cLine →
    (∀ v news' h' tk', Out v news' → Fr h₀ L h' m → News h₀ L h' news' → Q v { s with heap := h', toks := tk' }) →
    wpAny (model prog w) (ktrTop dp un gd cn cs L a ccd cl []) cal Q E s
section
local macro_rules | `(tactic| walk_at "ENTER0") => `(tactic| (refine wpAny_call ?_; k_dflt (refine ent0 ?_); k_whole; intros; rename_i B'; (try dsimp only); (try k_lift B'); (try k_fold)))
section
local macro_rules | `(tactic| walk_at "call ref") => `(tactic| (refine stop_here ?_))
local macro_rules | `(tactic| walk_at "call type:list") => `(tactic| (refine stop_here ?_))
theorem c_split : Wants PySem.Challenge.rw_in0077_01 Mine.K → ∀ (prog : Program) (w : World) (p : Program) (loose : List Str) (mean : ExcName → Option Value) (mg mb : Str → Option Value) (news : List (Addr × Obj)) (b : Str) (tb : Tok) (ws : List Str),
  Toks b 0 ws → b.length < 2 ^ 20 → ws.length ≤ 2 ^ 20 →
  Claim0 prog w (Mine.K w.params) p loose mean mg mb news 30 500 (call (.ref 758) [.str b tb] [(Str.ofString "comments", .bool true)]) (fun v news' => ∃ S vs n, v = .ref S ∧ TextsAre vs ws ∧ news' = (S, listOf vs.toArray n) :: news) := by
  k_fill
  intro hW prog w p loose mean mg mb news b tb ws hT hb hws dp un gd cn cs a ccd cl A₀ base h₀ L m s Q E B F X N T XB hk hd hu hret
  walk_at "ENTER0"
  k_steps
  refine stop_go ?_
  rename News _ _ _ _ => lN
  refine use_c_lexinit lN ?_
  clear lN
  intro x9 d9 sx9 sd9 pb9 fs9 κ9 τ9 κs9 tp9 tl9 tt9 tst9 nq9 mq9 h9 tk9 q9 F9 N9
  have a1 := q9.n1
  have a2 := q9.n3
  have a3 := q9.n6
  have a4 := q9.m1
  have a5 := q9.m3
  have a6 := q9.r1
  dsimp only [lexD0] at N9
  refine fold1 N9 ?_
  clear N9
  intro es9 N9
  try dsimp only
  try k_fold
  k_steps
  refine stop_go ?_
  rename News _ _ _ _ => lN
  refine lst_call trivial _ _ _ _ _ _ _ _ _ _ _ _ _ _ _ _ _ _ _ _ _ q9.n1 q9.n2 q9.n3 q9.n4 q9.n5 q9.n6 q9.m1 q9.m2 q9.m3 q9.m4 q9.r1 q9.r2 (by assumption) _ _ _ _ _ _ _ _ _ _ _ _ _ _ _ (by k_asm) (by k_asm) (by k_asm) (by first | exact rfl | assumption) (by ktr_room) (by ktr_units) _ _ _ _ _ _ _ _ (by assumption) (by assumption) (by k_asm) lN ?_
  clear lN
  intro S9 g9 h9 tk9 vs9 n9 o9 T9 F9 N9 B9
  try dsimp only
  try k_sweep
  k_steps
  all_goals ((rename News h₀ _ _ _ => N9); refine' hret _ _ _ _ ⟨_, _, _, rfl, by assumption, rfl⟩ ?f1 N9; (case f1 => k_asm))
end
noncomputable def peekN {α : Type} : Sem α → Option α
  | .pure a => some a
  | .rule _ k => peekN (k ())
  | .point _ k => peekN (k ())
  | _ => none
theorem wp_of_peekN {α : Type} {M : Model} {A : Around} {Q : α → Shared → Prop} {E : Value → Shared → Prop} {s : Shared} {a : α} (q : Q a s) : ∀ t : Sem α, peekN t = some a → wpAny M A t Q E s := by
  intro t
  induction t with
  | pure b => intro e; cases e; exact wpAny_pure q
  | rule _ k ih => intro e Γ p hΓ; exact ih () e Γ p hΓ
  | point _ k ih => intro e Γ p hΓ; exact ih () e Γ p hΓ
  | _ => intro e; cases e
noncomputable def reCode : Array Nat := #[14, 17, 4, 1, 1, 21, 9, 0, 604043296, 1, 0, 0, 0, 0, 0, 8, 4, 0, 13, 14, 21, 9, 0, 604043296, 1, 0, 0, 0, 0, 0, 8, 4, 0, 1]
noncomputable def srch (l : List Nat) : Option (Option Sre.M) := peekN (Builtin.Re.reRunToEnd (Sre.forSearch reCode l.toArray 0 0 (min (2 ^ 63 - 1) l.length) false))
noncomputable def SrchIs (x : Str) (found : Bool) : Prop := ∃ r, srch x.cps.toList = some r ∧ r.isSome = found
theorem search_entry : entryFor table "re.Pattern.search" = some Builtin.«re.Pattern.search» := entryFor_of_tree (by kernel_rfl)
theorem search_plain : plainId "re.Pattern.search" = true := by decide +kernel
section
variable {prog : Program} {w : World} {A : Around} {E Q : Value → Shared → Prop} {s : Shared} {h₀ : Heap} {L : Addr} {m : Str → Option Value} {news : List (Addr × Obj)}
theorem callWith_766 {env : Env} {pos : Pos} {first : List Value} {e : Expr} {rest : List Expr} {K0 : Heap} (_X : (Mine.K w.params).In K0)
    (h : wpAny (model prog w) A (spliced (backTo pos (starEach (e :: rest) env))) (fun vs s₁ => (Mine.K w.params).In s₁.heap ∧ wpAny (model prog w) A (call (.ref 766) (first ++ vs)) Q E s₁) E s)
    (he : starEach (e :: rest) env = (false, eval e env) :: starEach rest env := by rfl) (hplain : (backTo pos (starEach rest env)).any (·.1) = false := by rfl) :
    wpAny (model prog w) A (callWith pos (.ref 766) first (backTo pos (starEach (e :: rest) env)) []) Q E s := by
  rw [he] at h ⊢
  exact callWith_of (P := (Mine.K w.params).In) (by show ((false || (backTo pos (starEach rest env)).any (·.1)) || false) = false; rw [hplain]; rfl) (fun h X => ⟨.machine, .inr (.inl rfl), Looks.of_peek X (by kernel_rfl)⟩) (evalArgs_plain h)
theorem target_is (P : Params) (prog : Program) (x : Str) (t : Tok) : peek (Mine.K P) ⟨prog, P⟩ (Builtin.Re.reTarget "re.Pattern.search" "search" ⟨[.ref 63, .str x t], []⟩) =
    some { pattern := .ref 63, string := .str x t, code := reCode, text := x.cps, kind := 0, groups := 0, pos := min (0 : Int).toNat x.cps.size, lim := min ((2 ^ 63 - 1 : Int)).toNat x.cps.size } := by kernel_rfl
theorem call_search {x : Str} {t : Tok} {found : Bool} (hs : SrchIs x found) (F : Fr h₀ L s.heap m) (X₀ : (Mine.K w.params).In h₀) (N : News h₀ L s.heap news)
    (h0 : found = false → Q .none s) (h1 : found = true → ∀ D T o1 o2 h', Fr h₀ L h' m → News h₀ L h' ((D, o1) :: (T, o2) :: news) → Q (.ref D) { s with heap := h' }) :
    wpAny (model prog w) A (call (.ref 766) [.str x t]) Q E s := by
  have X := X₀.keeps F.keep
  obtain ⟨r, hr, hf⟩ := hs
  obtain ⟨hh, g, dr, tk, os⟩ := s
  refine wpAny_call (codeAny_of_tree ?_)
  show wpAny _ _ (callAny (.ref 766) _) _ _ _
  refine nd_load (X 766 ⟨.type "builtin_function_or_method", none, .fields #[.builtin "re.Pattern.search", .ref 63], #[]⟩ (by kernel_rfl)) ?_
  show wpAny _ _ (checkBoundCall "re.Pattern.search" ⟨[.ref 63, .str x t], []⟩ >>= fun _ => again (.builtin "re.Pattern.search" ⟨[.ref 63, .str x t], []⟩)) _ _ _
  refine wpAny_bind ((Looks.of_peek (r := ()) X (by kernel_rfl)).here ?_)
  refine wpAny_pure ⟨plainId_quiet search_plain _, codeAny_builtin search_entry ?_⟩
  rw [Around.under_plainId search_plain _]
  unfold Builtin.«re.Pattern.search»
  refine wpAny_bind ((Looks.of_peek X (target_is _ _ _ _)).here ?_)
  unfold Builtin.Re.reAnswer
  have hr' : peekN (Builtin.Re.reRunToEnd (Sre.forSearch reCode x.cps 0 (min (0 : Int).toNat x.cps.size) (min ((2 ^ 63 - 1 : Int)).toNat x.cps.size) false)) = some r := by
    rw [← hr]
    unfold srch
    rw [show (0 : Int).toNat = 0 from rfl, Nat.zero_min, show ((2 ^ 63 - 1 : Int)).toNat = 2 ^ 63 - 1 by decide, Array.length_toList]
  refine wpAny_bind (wp_of_peekN ?_ _ hr')
  cases r with
  | none => exact wpAny_pure (h0 hf.symm)
  | some mm =>
    dsimp only
    refine wpAny_bind ?_
    exact wp_twice (K := []) F N frag_nil (o := { cls := .type "tuple", data := .seq [rawInt mm.start, rawInt mm.handed].toArray }) (f := fun T => { cls := .type "re.Match", data := .fields #[.str x t, .ref 63, rawInt ((min (0 : Int).toNat x.cps.size : Nat) : Int), rawInt ((min ((2 ^ 63 - 1 : Int)).toNat x.cps.size : Nat) : Int), rawInt mm.lastindex, .ref T] }) (r := fun _ y => .ref y)
      (fun x y => by kernel_rfl) rfl (fun _ => rfl) fun x y h' _ _ F2 N2 => wpAny_pure (h1 hf.symm _ _ _ _ _ F2 N2)
end
end
section
local macro_rules | `(tactic| walk_at "callWith ref") => `(tactic| (k_here; k_dflt (refine' callWith_766 ?k1 ?_; (case k1 => k_asm); k_whole)))
theorem call_search0 {prog : Program} {w : World} {A : Around} {E Q : Value → Shared → Prop} {s : Shared} {h₀ : Heap} {L : Addr} {m : Str → Option Value} {news : List (Addr × Obj)} {x : Str} {t : Tok} (hs : SrchIs x false) (F : Fr h₀ L s.heap m) (X₀ : (Mine.K w.params).In h₀) (N : News h₀ L s.heap news)
    (h0 : Q .none s) : wpAny (model prog w) A (call (.ref 766) [.str x t]) Q E s := call_search hs F X₀ N (fun _ => h0) (fun e => absurd e (by decide))
theorem call_search1 {prog : Program} {w : World} {A : Around} {E Q : Value → Shared → Prop} {s : Shared} {h₀ : Heap} {L : Addr} {m : Str → Option Value} {news : List (Addr × Obj)} {x : Str} {t : Tok} (hs : SrchIs x true) (F : Fr h₀ L s.heap m) (X₀ : (Mine.K w.params).In h₀) (N : News h₀ L s.heap news)
    (h1 : ∀ D h', Fr h₀ L h' m → News h₀ L h' news → Q (.ref D) { s with heap := h' }) : wpAny (model prog w) A (call (.ref 766) [.str x t]) Q E s := call_search hs F X₀ N (fun e => absurd e (by decide)) (fun _ D T o1 o2 h' F' N' => h1 D h' F' (news_tl (news_tl N')))
local macro_rules | `(tactic| walk_at "call ref") => `(tactic| (refine stop_here ?_))
local macro_rules | `(tactic| walk_at "binaryOp Add str str") => `(tactic| ((k_dflt (refine SBL.add (hsz := ?hsz) ?_)); (case hsz => with_reducible assumption); intro _ _ _))
noncomputable def quoteQ (x : Str) : Str := Txt.replace x (Str.ofString "'") (Str.ofString "'\"'\"'")
noncomputable def safeCh (c : Nat) : Bool := (48 ≤ c && c ≤ 57) || (65 ≤ c && c ≤ 90) || (97 ≤ c && c ≤ 122) || c == 95 || c == 64 || c == 37 || c == 43 || c == 61 || c == 58 || c == 44 || c == 46 || c == 47 || c == 45
theorem keeps_of {s : Shared} {h' : Heap} {tk : Nat} (k : ∀ b o, s.heap.get? b = some o → h'.get? b = some o) : Keeps s { s with heap := h', toks := tk } := ⟨_, _, rfl, k⟩
section
variable {prog : Program} {w : World} {A : Around} {s : Shared} {K : Frag} {p : Program} {loose : List Str} {mean : ExcName → Option Value} {mg mb : Str → Option Value}
  {R : Result → Shared → Prop} {name qual : Str} {params : Arguments} {body : List Stmt} {scope : Scope} {dV kV doc pm cdv ct oc : Value} {an od : Option Addr} {osl : Array (Option Value)} {f : Addr} {args : Args} {binds : List (Str × Value)}
theorem call_defN (X : K.In s.heap) (T : Top p loose mean mg mb s.heap) (ho : K.lookup f = some ⟨oc, od, .func (fnOf name qual params body scope dV kV doc pm an cdv ct), osl⟩) (hcd : codeIn K cdv qual = true) (hroom : A.depth < recursionLimit)
    (hbind : BindsTo s (fnOf name qual params body scope dV kV doc pm an cdv ct) args binds) (hloc : ∀ y ∈ binds, scope.names.lookup y.1 = some .local)
    (h : ∀ L' h₁, Fr s.heap L' h₁ (fun y => binds.reverse.lookup y) → News s.heap L' h₁ [] →
      wpAny (model prog w) (A.deeper (envOf qual scope L' f cdv)) (execs body (envOf qual scope L' f cdv)) (fun fl s' => R (.ok (.ret (match fl with | .ret v => v | _ => .none))) s')
        (fun e s' => wpAny (model prog w) (A.deeper (envOf qual scope L' f cdv)) (leaving (envOf qual scope L' f cdv) e) (fun _ s'' => R (.error e) s'') (fun e' s'' => R (.error e') s'') s')
        { s with heap := h₁, toks := s.toks + binds.length })
    (hco : scope.isCoroutine = false) (hgen : scope.isGenerator = false) (hk : scope.kind = .function)
    (hcell : ∀ x ∈ scope.names, x.2 ≠ .cell) : codeAny (model prog w) A (.call (.ref f) args) R s := by
  refine codeAny_call_def (fd := fnOf name qual params body scope dV kV doc pm an cdv ct) (body := body) (binds := binds) hroom (X _ _ ho) rfl T.nolimit (codeRec_of X hcd) rfl hbind hcell hloc (fun h₁ hns hk₁ => ?_) hco hgen hk
  exact h s.heap.objs.size h₁ ⟨hns, hk₁, Nat.le_refl _⟩ (fun q hq => nomatch hq)
theorem entQ {h : Heap} {gs : Array GenState} {dr : Drawn} {t : Nat} {os : OsState} (H : let bs := binds; ∀ L' h₁ tk, Fr h L' h₁ (fun y => bs.reverse.lookup y) → News h L' h₁ [] →
      let A' := A.deeper (envOf qual scope L' f cdv)
      wpAny (model prog w) A' (execs body (envOf qual scope L' f cdv)) (fun fl s' => R (.ok (.ret (match fl with | .ret v => v | _ => .none))) s')
        (fun e s' => wpAny (model prog w) A' (leaving (envOf qual scope L' f cdv) e) (fun _ s'' => R (.error e) s'') (fun e' s'' => R (.error e') s'') s')
        ⟨h₁, gs, dr, tk, os⟩)
    (X : K.In h := by k_asm) (T : Top p loose mean mg mb h := by k_asm) (ho : K.lookup f = some ⟨oc, od, .func (fnOf name qual params body scope dV kV doc pm an cdv ct), osl⟩ := by walk_at "Mine.KN") (hcd : codeIn K cdv qual = true := by k_is) (hroom : A.depth < recursionLimit := by omega)
    (hbind : BindsTo ⟨h, gs, dr, t, os⟩ (fnOf name qual params body scope dV kV doc pm an cdv ct) args binds := by first | exact BindsTo.of_eq rfl | exact binds_K (by k_in) rfl (by k_is) rfl rfl rfl) (hcell : ∀ x ∈ scope.names, x.2 ≠ .cell := by decide) (hloc : ∀ y ∈ binds, scope.names.lookup y.1 = some .local := by exact locs rfl)
    (hco : scope.isCoroutine = false := by exact rfl) (hgen : scope.isGenerator = false := by exact rfl) (hk : scope.kind = .function := by exact rfl) : codeAny (model prog w) A (.call (.ref f) args) R ⟨h, gs, dr, t, os⟩ :=
  call_defN X T ho hcd hroom hbind hloc (fun L' h₁ F' N' => H L' h₁ _ F' N') hco hgen hk hcell
end
local macro_rules | `(tactic| walk_at "ENTERN") => `(tactic| (refine wpAny_call ?_; k_dflt (refine entQ ?_); k_whole; intros; (try dsimp only); (try k_fold)))
structure QOk (x : Str) : Prop where
  short : x.length < 2 ^ 16
  made : (quoteQ x).length < 2 ^ 20
  srch : x.length ≠ 0 → SrchIs x (!x.cps.toList.all safeCh)
theorem quoteN_e : Wants PySem.Challenge.rw_in0077_01 Mine.K → ∀ (prog : Program) (w : World) (p : Program) (loose : List Str) (mean : ExcName → Option Value) (mg mb : Str → Option Value) (A : Around) (s : Shared) (E : Value → Shared → Prop) (t : Tok), A.depth < recursionLimit → (Mine.K w.params).In s.heap → Top p loose mean mg mb s.heap →
  wpAny (model prog w) A (call (.ref 773) [.str (Str.ofString "") t]) (fun v s' => (∃ t', v = .str (Str.ofString "''") t') ∧ Keeps s s') E s := by
  k_fill
  intro _ prog w p loose mean mg mb A s E t hd X T
  walk_at "ENTERN"
  k_steps
  all_goals ((rename Fr s.heap _ _ _ => F9); exact keeps_of F9.keep)
theorem quoteN_s : Wants PySem.Challenge.rw_in0077_01 Mine.K → ∀ (prog : Program) (w : World) (p : Program) (loose : List Str) (mean : ExcName → Option Value) (mg mb : Str → Option Value) (A : Around) (s : Shared) (E : Value → Shared → Prop) (x : Str) (t : Tok), A.depth < recursionLimit → (Mine.K w.params).In s.heap → Top p loose mean mg mb s.heap →
  SrchIs x false → x.length < 2 ^ 20 → ((x.length : Int) != 0) = true → wpAny (model prog w) A (call (.ref 773) [.str x t]) (fun v s' => (∃ t', v = .str x t') ∧ Keeps s s') E s := by
  k_fill
  intro _ prog w p loose mean mg mb A s E x t hd X T hs hx hx0
  have hx1 : x.length < 2 ^ 62 := by omega
  walk_at "ENTERN"
  k_steps
  refine stop_go ?_
  refine call_search0 (by with_reducible assumption) (by k_asm) (by k_asm) (by k_asm) ?_
  try k_fold
  k_steps
  all_goals ((rename Fr s.heap _ _ _ => F9); exact keeps_of F9.keep)
theorem quoteN_q : Wants PySem.Challenge.rw_in0077_01 Mine.K → ∀ (prog : Program) (w : World) (p : Program) (loose : List Str) (mean : ExcName → Option Value) (mg mb : Str → Option Value) (A : Around) (s : Shared) (E : Value → Shared → Prop) (x : Str) (t : Tok), A.depth < recursionLimit → (Mine.K w.params).In s.heap → Top p loose mean mg mb s.heap →
  SrchIs x true → x.length < 2 ^ 16 → (quoteQ x).length < 2 ^ 20 → ((x.length : Int) != 0) = true → wpAny (model prog w) A (call (.ref 773) [.str x t]) (fun v s' => (∃ t', v = .str (Str.ofString "'" ++ quoteQ x ++ Str.ofString "'") t') ∧ Keeps s s') E s := by
  k_fill
  intro _ prog w p loose mean mg mb A s E x t hd X T hs hx hq hx0
  have hx1 : x.length < 2 ^ 62 := by omega
  have e1 : (Str.ofString "'").length = 1 := by decide +kernel
  have z1 : (Str.ofString "'").length + (Txt.replace x (Str.ofString "'") (Str.ofString "'\"'\"'")).length ≤ sizeLine := by
    show _ + (quoteQ x).length ≤ _
    rw [e1, sizeLine_eq]; omega
  have z2 : (Str.ofString "'" ++ Txt.replace x (Str.ofString "'") (Str.ofString "'\"'\"'")).length + (Str.ofString "'").length ≤ sizeLine := by
    show (_ ++ quoteQ x).length + _ ≤ _
    rw [Str.length_append, e1, sizeLine_eq]; omega
  walk_at "ENTERN"
  k_steps
  refine stop_go ?_
  refine call_search1 (by with_reducible assumption) (by k_asm) (by k_asm) (by k_asm) ?_
  intro D9 h9 F9 N9
  try k_sweep
  try k_fold
  k_steps
  all_goals ((rename Fr s.heap _ _ _ => F9); exact keeps_of F9.keep)
noncomputable def quoteF (x : Str) : Str := if x.length = 0 then Str.ofString "''" else if x.cps.toList.all safeCh then x else Str.ofString "'" ++ quoteQ x ++ Str.ofString "'"
theorem str_empty {x : Str} (h : x.length = 0) : x = Str.ofString "" := by
  have e : Str.ofString "" = ⟨#[]⟩ := by decide +kernel
  obtain ⟨c⟩ := x
  rw [e]
  have : c.size = 0 := h
  rw [Array.eq_empty_of_size_eq_zero this]
theorem quoteN (hW : Wants PySem.Challenge.rw_in0077_01 Mine.K) (prog : Program) (w : World) (p : Program) (loose : List Str) (mean : ExcName → Option Value) (mg mb : Str → Option Value) (A : Around) (s : Shared) (E : Value → Shared → Prop) (x : Str) (t : Tok) (hd : A.depth < recursionLimit) (X : (Mine.K w.params).In s.heap) (T : Top p loose mean mg mb s.heap)
    (hq : QOk x) : wpAny (model prog w) A (call (.ref 773) [.str x t]) (fun v s' => (∃ t', v = .str (quoteF x) t') ∧ Keeps s s') E s := by
  unfold quoteF
  by_cases h0 : x.length = 0
  · rw [if_pos h0]
    have := str_empty h0
    subst this
    exact quoteN_e hW prog w p loose mean mg mb A s E t hd X T
  · have hx0 : ((x.length : Int) != 0) = true := by simp; omega
    have hs := hq.srch h0
    have := hq.short
    rw [if_neg h0]
    cases hc : x.cps.toList.all safeCh with
    | true =>
      rw [hc] at hs
      exact quoteN_s hW prog w p loose mean mg mb A s E x t hd X T hs (by omega) hx0
    | false =>
      rw [hc] at hs
      exact quoteN_q hW prog w p loose mean mg mb A s E x t hd X T hs hq.short hq.made hx0
end
noncomputable def TabOk (pos : Pos) (ps : Array Value) : Prop := ps = #[] ∨ ∃ c' : Addr, ps = #[rawInt pos.line, rawInt pos.col, .ref c']
theorem code_step {M : Model} {A : Around} {E : Value → Shared → Prop} {s : Shared} {env : Env} {c P : Addr} {ps : Array Value} {pos : Pos} {qualname : Str} {scope : Scope} {Q : Value → Shared → Prop} (hc : env.code = .ref c) (C : CodeHd s.heap c P) (hP : s.heap.get? P = some (tabObj ps)) (ht : TabOk pos ps)
    (hQ : ∀ c' h' tk ps', TabOk pos ps' → (∀ b o, b ≠ P → s.heap.get? b = some o → h'.get? b = some o) → s.heap.objs.size ≤ h'.objs.size → h'.get? P = some (tabObj ps') → Q (.ref c') { s with heap := h', toks := tk }) :
    wpAny M A (genexprCode env pos qualname scope) Q E s := by
  rcases ht with rfl | ⟨c', rfl⟩
  · refine wpAny_genexprCodeX hc (C.code hP trivial) (C.tab hP) rfl fun c' h' tk hx hge hlt _ _ htab _ => ?_
    exact hQ c' h' tk _ (.inr ⟨c', rfl⟩) hx (Nat.le_trans hge (Nat.le_of_lt hlt)) htab.2
  · refine wpAny_genexprCode_hit hc (C.code hP (by simp [TriplesOk, rawInt])) (c' := .ref c') (by simp [codeAmong, rawInt]) ?_
    exact hQ c' s.heap s.toks _ (.inr ⟨c', rfl⟩) (fun _ _ _ e => e) (Nat.le_refl _) hP
theorem gen_texts {prog : Program} {w : World} {A : Around} {E : Value → Shared → Prop} {s : Shared} {h₀ : Heap} {L : Addr} {m mg mb : Str → Option Value} {p : Program} {loose : List Str} {mean : ExcName → Option Value} {news : List (Addr × Obj)} {env : Env} {elt iter : PySem.Expr} {x : Str} {px : Pos} {scope : Scope} {pos : Pos} {c P l : Addr} {ps : Array Value} {vs : List Value} {n : Nat} {ws : List Str} {f : Str → Str} {Q : Value → Shared → Prop}
    (F : Fr h₀ L s.heap m) (N : News h₀ L s.heap ((P, tabObj ps) :: (l, listOf vs.toArray n) :: news)) (T : Top p loose mean mg mb h₀) (C : CodeHd h₀ c P) (ht : TabOk pos ps) (G : AllBare s.gens) (hPl : (∀ q ∈ (l, listOf vs.toArray n) :: news, q.1 ≠ P)) (hvs : TextsAre vs ws)
    (hcode : env.code = .ref c) (hglob : env.globals = mainGlobals) (hh : A.handled = none) (hco : scope.isCoroutine = false) (hclos : closureFor scope env = pure []) (hcell : ∀ y ∈ scope.names, y.2 ≠ .cell) (h0 : scope.names.lookup (".0" : Str) = some NameKind.local)
    (hx : scope.names.lookup x = some .local) (hkind : scope.kind = .function) (hroom : A.depth < recursionLimit)
    (hiter : ∀ Q' : Value → Shared → Prop, Q' (.ref l) s → wpAny (model prog w) A (eval iter env) Q' E s)
    (helt : ∀ (A' : Around) E' (C' : Addr) (code : Value) (u : Shared) (m₂ : Str → Option Value) (y : Str) (t : Tok), A'.handled = none → A'.depth ≤ A.depth + 1 → A'.units ≤ A.units + 8 → y ∈ ws → u.heap.Ns C' m₂ → m₂ x = some (.str y t) → (∀ b o, h₀.get? b = some o → u.heap.get? b = some o) →
      wpAny (model prog w) A' (eval elt (genEnv scope [] C' code builtinsNs env)) (fun v u' => (∃ t', v = .str (f y) t') ∧ Keeps u u') E' u)
    (hQ : ∀ a Kb ps' h' tk' gs', TabOk pos ps' → Fr h₀ L h' m → News h₀ L h' ((P, tabObj ps') :: (l, listOf vs.toArray n) :: news) → AllBare gs' → L ≤ Kb → (∀ q ∈ (P, tabObj ps') :: (l, listOf vs.toArray n) :: news, q.1 ≤ Kb) →
      Gen prog w A Kb a ws.length (fun j v => ∃ y t, ws[j]? = some y ∧ v = .str (f y) t) { s with heap := h', toks := tk', gens := gs' } → Q (.ref a) { s with heap := h', toks := tk', gens := gs' })
    (hs : ∀ x, genFold iter env x = pure x) :
    wpAny (model prog w) A (eval (.GeneratorExp elt [⟨.Name x px, iter, [], 0⟩] scope pos) env) Q E s := by
  have hgl : s.heap.NoLimit := T.nolimit.keeps F.keep
  have hl : s.heap.IsList l vs.toArray := ⟨_, (N (l, listOf vs.toArray n) (.tail _ (.head _))).1, rfl, n, rfl⟩
  have hLlt : L < s.heap.objs.size := F.ns.lt
  have hlt : ∀ q ∈ (P, tabObj ps) :: (l, listOf vs.toArray n) :: news, q.1 < s.heap.objs.size := fun q hq => Heap.lt_size (N q hq).1
  have hPn := N (P, tabObj ps) (.head _)
  have hat : ∀ (i : Nat) (v : Value), vs.toArray[i]? = some v → ∃ y t, ws[i]? = some y ∧ y ∈ ws ∧ v = .str y t := by
    intro i v hv
    rw [List.getElem?_toArray] at hv
    clear hl N hlt hPn hQ hPl
    induction vs generalizing ws i with
    | nil => cases hv
    | cons a r ih =>
      cases ws with
      | nil => exact hvs.elim
      | cons b q =>
        obtain ⟨⟨t, rfl⟩, hr⟩ := hvs
        cases i with
        | zero => cases hv; exact ⟨b, t, rfl, .head _, rfl⟩
        | succ i =>
          obtain ⟨y, t', h1, h2, h3⟩ := ih hr (fun _ _ _ _ _ _ _ _ a b c d e f g => helt _ _ _ _ _ _ _ _ a b c (.tail _ d) e f g) i hv
          exact ⟨y, t', h1, .tail _ h2, h3⟩
  have hsz : vs.toArray.size = ws.length := by
    rw [List.size_toArray]
    clear hl N hlt hPn hat hQ hPl helt
    induction vs generalizing ws with
    | nil => cases ws with | nil => rfl | cons => exact hvs.elim
    | cons a r ih => cases ws with | nil => exact hvs.elim | cons b q => exact congrArg (· + 1) (ih hvs.2)
  refine wpAny_GeneratorExp_walksQD hh hco hclos hcell h0 hx hkind hroom (hiter _ (wpAny_pyIter_list hl ⟨hgl.push _, ?_⟩)) hs
  have F₂ := F.push ({ cls := .type "list_iterator", data := .fields #[.ref l, .int 0 0] } : Obj)
  have P₂ : (s.heap.push ({ cls := .type "list_iterator", data := .fields #[.ref l, .int 0 0] } : Obj)).get? P = some (tabObj ps) := Heap.get?_push_of_some _ hPn.1
  refine code_step (s := { s with heap := s.heap.push ({ cls := .type "list_iterator", data := .fields #[.ref l, .int 0 0] } : Obj) }) hcode (C.keeps F₂.keep) P₂ ht fun c' h₃ tk₃ ps' ht' hx₃ hsz₃ hP₃ => ?_
  dsimp only at hx₃ hsz₃
  have sz2 : s.heap.objs.size + 1 ≤ h₃.objs.size := by rw [Heap.size_push] at hsz₃; exact hsz₃
  have k₃ : ∀ b o, h₀.get? b = some o → h₃.get? b = some o := fun b o e => hx₃ b o (fun q => by rw [q, hPn.2.2] at e; cases e) (F₂.keep b o e)
  have hl₃ : h₃.NoLimit := T.nolimit.keeps k₃
  obtain ⟨bm, ob, M⟩ := bmod_of_top T
  have M₃ := M.keeps k₃
  rw [hglob]
  refine wpAny_builtinsFor M₃.ns M₃.name M₃.ne M₃.obj M₃.cls M₃.dict M₃.data ?_
  have hlI : l < s.heap.objs.size := hlt (l, listOf vs.toArray n) (.tail _ (.head _))
  have hPI : P < s.heap.objs.size := hlt (P, tabObj ps) (.head _)
  have hlP : l ≠ P := hPl _ (.head _)
  have kI : ∀ b o, h₀.get? b = some o → b ≠ s.heap.objs.size := fun b o e => Nat.ne_of_lt (Heap.lt_size (F.keep b o e))
  have hitI : h₃.IsListIter s.heap.objs.size l 0 := ⟨_, hx₃ _ _ (Nat.ne_of_gt hPI) (Heap.get?_push_size _ rfl), rfl, rfl⟩
  have hlst : h₃.IsList l vs.toArray := by
    obtain ⟨o, e, r⟩ := hl
    exact ⟨o, hx₃ _ _ hlP (Heap.get?_push_of_some _ e), r⟩
  refine ⟨s.heap.objs.size, [s.heap.objs.size, l], [s.heap.objs.size], vs.toArray.size, _, _, fun _ => true, fun i v => ∃ y t, ws[i]? = some y ∧ v = .str (f y) t, rfl, (fun A' hA => Walks.list hA _ _ (Nat.ne_of_lt hlI) vs.toArray), ⟨hitI, hlst⟩, ?_, hl₃, ?_, fun href hhref => ⟨?_, ?_⟩, ?_⟩
  · intro b hb
    show b < h₃.objs.size
    rcases List.mem_cons.mp hb with rfl | hb
    · exact Nat.lt_of_lt_of_le (Nat.lt_succ_self _) sz2
    · rcases List.mem_cons.mp hb with rfl | hb
      · exact Nat.lt_of_lt_of_le (Nat.lt_succ_of_lt hlI) sz2
      · cases hb
  · intro hb
    obtain ⟨_, ⟨o, es, ep, e, _⟩, _⟩ := T.nolimit
    exact kI _ _ e (List.mem_singleton.mp hb)
  · intro A' E' i v s₂ m₂ _ _ _ _ _ _ _
    exact wpAny_pure ⟨rfl, s₂.heap, s₂.toks, rfl, fun _ _ e => e⟩
  · intro A' E' i v s₂ m₂ hA hD hU hP _ hn hm hkp
    obtain ⟨y, t, h1, h2, rfl⟩ := hat i v hP
    exact wpAny_mono (helt A' E' _ _ s₂ m₂ y t hA hD hU h2 hn hm fun b o e => hkp b (List.mem_range.mpr (Heap.lt_size (k₃ b o e))) (fun q => kI b o e (List.mem_singleton.mp q)) o (hhref b o (k₃ b o e)))
      (fun v u r => ⟨⟨y, r.1.choose, h1, r.1.choose_spec⟩, r.2⟩) fun _ _ e => e
  · intro a h₅ tk gs hgb hag hsz₅ hk₅ W hst
    have hpass : passing (fun _ => true) vs.toArray.size 0 = List.range ws.length := by rw [hsz]; simp [passing]
    rw [hpass] at W
    rw [List.length_range] at W
    refine hQ a (s.heap.objs.size - 1) ps' h₅ tk _ ht' (F₂.ns.at' (fun o e => hk₅ _ _ (hx₃ _ o (fun q => ?_) e)) |> fun ns => ⟨ns, fun b o e => hk₅ _ _ (k₃ b o e), F.above⟩) (fun q hq => ?_) (G.push hgb) (Nat.le_sub_one_of_lt hLlt) (fun q hq => ?_) (Gen.imp ⟨_, _, _, _, W, hst, (fun i s' st => st.1.typeIs), List.mem_cons_self, ?_, ?_⟩ fun j v hv => ?_)
    · exact hPn.2.1 q.symm
    · rcases List.mem_cons.mp hq with rfl | hq
      · exact ⟨hk₅ _ _ hP₃, hPn.2⟩
      · exact ⟨hk₅ _ _ (hx₃ _ _ (hPl q hq) (Heap.get?_push_of_some _ (N q (.tail _ hq)).1)), (N q (.tail _ hq)).2⟩
    · rcases List.mem_cons.mp hq with rfl | hq
      · exact Nat.le_sub_one_of_lt hPI
      · exact Nat.le_sub_one_of_lt (hlt q (.tail _ hq))
    · intro b hb
      show b < h₅.objs.size
      rw [hsz₅]
      rcases List.mem_cons.mp hb with rfl | hb
      · exact Nat.lt_succ_self _
      · rcases List.mem_cons.mp hb with rfl | hb
        · exact Nat.lt_succ_of_lt hag
        · exact Nat.lt_succ_of_lt (Nat.lt_trans (List.mem_range.mp hb) hag)
    · intro b hb
      have : 0 < s.heap.objs.size := Nat.lt_of_le_of_lt (Nat.zero_le _) hLlt
      rcases List.mem_cons.mp hb with rfl | hb
      · show s.heap.objs.size - 1 < h₃.objs.size
        omega
      · obtain rfl := List.mem_singleton.mp hb
        exact Nat.sub_lt this Nat.one_pos
    · obtain ⟨i, hi, y, t, h1, h2⟩ := hv
      have : i = j := by
        rw [List.getElem?_range] at hi
        · exact (Option.some.inj hi).symm
        · obtain ⟨h, _⟩ := List.getElem?_eq_some_iff.mp hi
          simpa using h
      subst this
      exact ⟨y, t, h1, h2⟩
theorem elt_quote (hW : Wants PySem.Challenge.rw_in0077_01 Mine.K) {prog : Program} {w : World} {p : Program} {loose : List Str} {mean : ExcName → Option Value} {mg mb : Str → Option Value} {A : Around} {E : Value → Shared → Prop} {u : Shared} {env : Env} {m₂ : Str → Option Value} {p1 p2 pos : Pos} {y : Str} {t : Tok}
    (hqf : nsIn (Mine.K w.params) mainGlobals "quote" = some (some (.ref 773))) (hkp : keepIn (Mine.K w.params) (.ref 773) = true)
    (hk : env.scope.kind = .function) (hg : env.globals = mainGlobals) (hx : env.kindOf "quote" = some .globalImplicit) (ha : env.kindOf "arg" = some .local)
    (hd : A.depth < recursionLimit) (X : (Mine.K w.params).In u.heap) (T : Top p loose mean mg mb u.heap) (hn : u.heap.Ns env.locals m₂) (hm : m₂ "arg" = some (.str y t)) (hq : QOk y)
    (hs : starEach [PySem.Expr.Name "arg" p2] env = [(false, eval (.Name "arg" p2) env)]) :
    wpAny (model prog w) A (eval (.Call (.Name "quote" p1) [.Name "arg" p2] [] pos) env) (fun v u' => (∃ t', v = .str (quoteF y) t') ∧ Keeps u u') E u := by
  show wpAny _ _ (do callWith pos (← eval (.Name "quote" p1) env) [] (backTo pos (starEach [PySem.Expr.Name "arg" p2] env)) (backToKw pos (keywordEach [] env))) _ _ u
  refine wpAny_bind (Calls.Name_function_global hk hx (Calls.loadGlobal_global (hg ▸ T.g) (mg_of X T.g hqf) ?_) (by decide +kernel))
  refine callWith_K (h₀ := u.heap) X hkp ?_ (by rw [hs]; rfl) rfl
  have hb : backTo pos (starEach [PySem.Expr.Name "arg" p2] env) = [(false, eval (.Name "arg" p2) env)] := by rw [hs]; rfl
  rw [hb]
  refine Calls.spliced_cons (wpAny_Name (wpAny_loadName_local hk ha hn hm (Calls.spliced_nil ⟨X, ?_⟩)) (by decide +kernel))
  exact quoteN hW prog w p loose mean mg mb A u E y t hd X T hq
noncomputable def joinF (ws : List Str) : Str := Txt.join (Str.ofString " ") (ws.map quoteF)
section
noncomputable abbrev ClaimG (prog : Program) (w : World) (K : Frag) (p : Program) (loose : List Str) (mean : ExcName → Option Value) (mg mb : Str → Option Value) (news : List (Addr × Obj)) (dd uu : Nat) (cal : Sem Value) (Out : Value → List (Addr × Obj) → Prop) : Prop :=
  ∀ (dp un : Nat) (gd : Option (List Code)) (cn : Str) (cs : Scope) (a : Addr) (ccd : Value) (cl : List (Str × Addr)) (outer : List Env) (A₀ : Around) (base h₀ : Heap) (L : Addr) (m : Str → Option Value) (s : Shared) (Q E : Value → Shared → Prop),
    Below A₀ base outer h₀ → Fr h₀ L s.heap m → K.In h₀ → News h₀ L s.heap news → Top p loose mean mg mb h₀ → AllBare s.gens → cs.kind = .function → dp + dd < recursionLimit → un + uu < cLine →
    (∀ v news' s', Out v news' → Fr h₀ L s'.heap m → News h₀ L s'.heap news' → AllBare s'.gens → s'.os = s.os → Q v s') →
    wpAny (model prog w) (ktrTop dp un gd cn cs L a ccd cl outer) cal Q E s
local macro_rules | `(tactic| walk_at "eval GeneratorExp") => `(tactic| (refine stop_here ?_))
noncomputable def jpos : Pos := ⟨747, 20, 747, 57⟩
theorem range_map (ws : List Str) (f : Str → Str) : (List.range ws.length).map (fun j => ((ws[j]?).map f).getD (Str.ofString "")) = ws.map f := by
  apply List.ext_getElem
  · simp
  · intro i h1 h2
    simp at h1
    simp [h1]
theorem c_join : Wants PySem.Challenge.rw_in0077_01 Mine.K → ∀ (prog : Program) (w : World) (p : Program) (loose : List Str) (mean : ExcName → Option Value) (mg mb : Str → Option Value) (news : List (Addr × Obj)) (l : Addr) (vs : List Value) (ws : List Str) (n : Nat) (ps : Array Value), TextsAre vs ws → ws.length < 2 ^ 10 → (∀ q ∈ (l, listOf vs.toArray n) :: news, q.1 ≠ 760) → (∀ y ∈ ws, QOk y) → JoinOk (Str.ofString " ") (ws.map quoteF) = true → TabOk jpos ps →
  ClaimG prog w (Mine.K w.params) p loose mean mg mb ((760, tabObj ps) :: (l, listOf vs.toArray n) :: news) 8 80 (call (.ref 765) [.ref l]) (fun v news' => ∃ t ps', v = .str (joinF ws) t ∧ TabOk jpos ps' ∧ news' = (760, tabObj ps') :: (l, listOf vs.toArray n) :: news) := by
  k_fill
  intro hW prog w p loose mean mg mb news l vs ws n ps hvs hl h760 hq hj ht dp un gd cn cs a ccd cl outer A₀ base h₀ L m s Q E B F X N T G hk hd hu hret
  walk_at "ENTER"
  k_steps
  rename News _ _ _ _ => N9
  have hqf : nsIn (Mine.K w.params) mainGlobals (Str.ofString "quote") = some (some (.ref 773)) := by k_is
  have hkp : keepIn (Mine.K w.params) (.ref 773) = true := by k_is
  rename (Mine.K w.params).In _ => X9
  rename Top _ _ _ _ _ _ => T9
  show wpAny _ _ _ _ _ _
  refine gen_texts (f := quoteF) (by assumption) N9 T9 (codeHd_of_K (c := 764) (P := 760) X9 (by kernel_rfl)) ht G h760 hvs rfl rfl rfl rfl rfl (by decide) rfl rfl rfl (by ktr_room) ?_ ?_ ?_ (fun _ => rfl)
  · intro Q' hq'
    exact wpAny_Name (wpAny_loadName_local rfl rfl (Fr.ns (by assumption)) (by exact rfl) hq') (by decide +kernel)
  · intro A' E' C' code u m₂ y t hA hD hU hy hn hm hk9
    have hD' : A'.depth ≤ dp + 1 + 1 := hD
    exact elt_quote hW hqf hkp rfl rfl rfl rfl (by omega) (X9.keeps hk9) (T9.keeps hk9) hn hm (hq y hy) rfl
  · intro a Kb ps' h2 tk2 gs2 ht2 F2 N2 G2 hLK hle X2
    refine Calls.spliced_nil ?_
    show wpAny _ _ (call (.builtin "str.join") [.str (Str.ofString " ") _, .ref a]) _ _ _
    have hr := range_map ws quoteF
    refine join_rowsK F2 G2 X2 hLK (fun j => ((ws[j]?).map quoteF).getD (Str.ofString "")) (fun j v hv => ?_) (by rw [hr]; exact hj) (fun s' t' F3 G3 hos hk3 => ?_) (by rw [sizeLine_eq]; omega)
    · obtain ⟨y, t, h1, rfl⟩ := hv
      exact ⟨t, by rw [h1]; rfl⟩
    · have N3 : News _ _ s'.heap ((760, tabObj ps') :: (l, listOf vs.toArray n) :: news) := fun q hq9 => ⟨hk3 _ _ (hle q hq9) (N2 q hq9).1, (N2 q hq9).2⟩
      clear N2 N9 F2
      rw [hr]
      try dsimp only
      k_steps
      exact hret _ _ s' ⟨t', ps', rfl, ht2, rfl⟩ (by k_asm) (by k_asm) G3 hos
end
noncomputable def fnSlotG : Slot "function" "__getattribute__" "object.__getattribute__" :=
  .of (owner := "object") (n := "__getattribute__") (by rw [typeLookup_type, builtinLookup_eq_fast]; kernel_rfl) (by decide +kernel) (by decide +kernel) (by decide +kernel)
    (by first | exact .inl (by decide +kernel) | exact .inr (by decide +kernel)) (by rw [isSubtype_type]; kernel_rfl)
noncomputable def fnSlotS : Slot "function" "__setattr__" "object.__setattr__" :=
  .of (owner := "object") (n := "__setattr__") (by rw [typeLookup_type, builtinLookup_eq_fast]; kernel_rfl) (by decide +kernel) (by decide +kernel) (by decide +kernel)
    (by first | exact .inl (by decide +kernel) | exact .inr (by decide +kernel)) (by rw [isSubtype_type]; kernel_rfl)
theorem fn_getattr_none : typeLookup (.type "function") "__getattr__" = pure none := by rw [typeLookup_type, builtinLookup_eq_fast]; kernel_rfl
theorem fn_read_none : typeLookup (.type "function") "read" = pure none := by rw [typeLookup_type, builtinLookup_eq_fast]; kernel_rfl
theorem fn_mro : mroOf (.type "function") = pure [.type "function", .type "object"] := by kernel_rfl
theorem fn_passes (self : Value) : refuseLoop self "__setattr__" [.type "function", .type "object"] = pure () := by kernel_rfl
theorem fn_entryG : entryFor table "object.__getattribute__" = some Builtin.«object.__getattribute__» := entryFor_of_tree (by kernel_rfl)
theorem fn_entryS : entryFor table "object.__setattr__" = some Builtin.«object.__setattr__» := entryFor_of_tree (by kernel_rfl)
theorem fn_argsG (a b : Value) : argsOk "object.__getattribute__" ⟨[a, b], []⟩ := by unfold argsOk; kernel_rfl
theorem fn_argsS (a b c : Value) : argsOk "object.__setattr__" ⟨[a, b, c], []⟩ := by unfold argsOk; kernel_rfl
theorem fn_meetsG (x D : Addr) (fd : FuncData) (sl : Array (Option Value)) (m : Str → Option Value) (v : Value) (u : Tok) :
    Meets (Builtin.«object.__getattribute__» ⟨[.ref x, .str "read" u], []⟩) (fun A R s => s.heap.get? x = some { cls := .type "function", dict := some D, data := .func fd, slots := sl } ∧ s.heap.Ns D m ∧ m "read" = some v ∧ R (.ok (.ret v)) s) :=
  Meets.of_wp fun prog w A R s hs => by
    obtain ⟨hp, g, d, tk, os⟩ := s
    obtain ⟨hx, hn, hm, hs⟩ := hs
    have hT : (⟨hp, g, d, tk, os⟩ : Shared).TypeIs (.ref x) "function" := ⟨_, hx, rfl⟩
    have f1 := fn_read_none
    unfold Builtin.«object.__getattribute__»
    repeat (any_goals (first | assumption | (refine wpAny_nsGet hn ?_; rw [hm]) | wp_step))
    exact ⟨v, rfl, hs⟩
noncomputable def readNs (v : Value) : Str → Option Value := fun y => if y = ("read" : Str) then some v else none
theorem fn_getAttr {prog : Program} {w : World} {A : Around} {E : Value → Shared → Prop} {s : Shared} {x D : Addr} {fd : FuncData} {sl : Array (Option Value)} {m : Str → Option Value} {v : Value} {Q : Value → Shared → Prop}
    (hx : s.heap.get? x = some { cls := .type "function", dict := some D, data := .func fd, slots := sl }) (hn : s.heap.Ns D m) (hm : m "read" = some v) (hv : ∃ a, v = .ref a) (hq : ∀ tk, Q v { s with toks := tk }) :
    wpAny (model prog w) A (getAttr (.ref x) "read") Q E s := by
  obtain ⟨a, rfl⟩ := hv
  obtain ⟨hp, g, d, tk, os⟩ := s
  have hT : ∀ tk', (⟨hp, g, d, tk', os⟩ : Shared).TypeIs (.ref x) "function" := fun _ => ⟨_, hx, rfl⟩
  have f3 := fnSlotG.lookup
  have f4 := fnSlotG.bind (.ref x)
  have f5 := fn_getattr_none
  unfold getAttr getAttrBy
  repeat (any_goals (first | assumption | exact hT _ | ((with_reducible show wpAny _ _ (call (Value.builtin "object.__getattribute__") _ _) _ _ _); refine call_meets fnSlotG (hT _) fn_entryG (fn_argsG _ _) (fn_meetsG x D fd sl m (.ref a) _) ⟨hx, hn, hm, ?_⟩) | wp_step))
  show wpAny _ _ (handedOut _) _ _ _
  unfold handedOut
  repeat (any_goals (first | assumption | wp_step))
  exact hq _
theorem fn_getMethod {prog : Program} {w : World} {A : Around} {E : Value → Shared → Prop} {s : Shared} {x D : Addr} {fd : FuncData} {sl : Array (Option Value)} {m : Str → Option Value} {v : Value} {pl : Sem Bool} {Q : Value × List Value → Shared → Prop}
    (hx : s.heap.get? x = some { cls := .type "function", dict := some D, data := .func fd, slots := sl }) (hn : s.heap.Ns D m) (hm : m "read" = some v) (hv : ∃ a, v = .ref a) (hq : ∀ tk, Q (v, []) { s with toks := tk }) :
    wpAny (model prog w) A (getMethod (.ref x) "read" pl) Q E s := by
  have hT : s.TypeIs (.ref x) "function" := ⟨_, hx, rfl⟩
  have f3 := fnSlotG.lookup
  have f5 := fn_getattr_none
  have f6 := fn_read_none
  have hc : (Manifest.canonical "object.__getattribute__" != "object.__getattribute__") = false := by decide +kernel
  unfold getMethod
  revert hc
  generalize Manifest.canonical = can
  intro hc
  repeat (first | assumption | (rw [hc]) | ((fail_if_success (with_reducible show wpAny _ _ (getAttr _ _ _) _ _ _)); wp_step))
  exact fn_getAttr hx hn hm hv fun tk => wpAny_pure (hq tk)
theorem store_first {prog : Program} {w : World} {A : Around} {E : Value → Shared → Prop} {s : Shared} {D : Addr} {v : Value} {tk : Tok} {Q : Fin → Shared → Prop} (hD : s.heap.Ns D fun _ => none)
    (hq : ∀ h' tk', (∃ oD, h'.get? D = some oD ∧ h'.Ns D (readNs v)) → (∀ b, b ≠ D → h'.get? b = s.heap.get? b) → Q (.done (.ret .none)) { s with heap := h', toks := tk' }) :
    wpAny (model prog w) A (Builtin.ObjectAttr.storeInDict D (.str "read" tk) "read" v) Q E s := by
  simp only [Builtin.ObjectAttr.storeInDict, Builtin.ObjectAttr.newKeyGuard]
  apply wpAny_bind
  apply wpAny_pure
  apply wpAny_bind
  refine wpAny_nsSet1 (Heap.Ns1.of_empty hD) fun h' one keep => ?_
  obtain ⟨oD, es, _, at_, data, few⟩ := one.count (Within.cons "read" v Within.nil)
  refine wpAny_bind (wpAny_lookBehind at_ (data ▸ pastItsLine_dict (Nat.le_trans few (by decide +kernel))) ?_)
  wp_walk
  obtain ⟨o', ys, ep, e1, e2, e3, _, e4⟩ := one
  exact hq h' _ ⟨oD, at_, o', ys, ep, e1, e2, e3, fun y => (e4 y).trans rfl⟩ keep.2
theorem fn_setEntry {prog : Program} {w : World} {A : Around} {E : Value → Shared → Prop} {h : Heap} {g : Array GenState} {d : Drawn} {t : Nat} {os : OsState} {x : Addr} {fd : FuncData} {sl : Array (Option Value)} {v : Value} {tk : Tok} {Q : Fin → Shared → Prop}
    (hx : h.get? x = some { cls := .type "function", dict := none, data := .func fd, slots := sl })
    (hq : ∀ h' tk' D, h'.get? x = some { cls := .type "function", dict := some D, data := .func fd, slots := sl } → h.objs.size ≤ D → (∃ oD, h'.get? D = some oD ∧ h'.Ns D (readNs v)) → (∀ b o, b ≠ x → h.get? b = some o → h'.get? b = some o) → Q (.done (.ret .none)) ⟨h', g, d, tk', os⟩) :
    wpAny (model prog w) A (Builtin.«object.__setattr__» ⟨[.ref x, .str "read" tk, v], []⟩) Q E ⟨h, g, d, t, os⟩ := by
  have hT : (⟨h, g, d, t, os⟩ : Shared).TypeIs (.ref x) "function" := ⟨_, hx, rfl⟩
  have hpass := fn_passes (.ref x)
  have hm := fn_mro
  have f1 := fn_read_none
  unfold Builtin.«object.__setattr__»
  repeat (first | assumption | rw [refuse_eq] | rw [hpass] | ((fail_if_success (with_reducible show wpAny _ _ (alloc _) _ _ _)); wp_step))
  have far : @Ne Nat x h.objs.size := Nat.ne_of_lt (Heap.lt_size hx)
  have old := Heap.get?_push_of_some { cls := .type "dict", data := .dict #[] } hx
  refine wpAny_alloc' (wpAny_bind (wpAny_update' old ?_))
  show wpAny _ _ (dictMade (.type "function") x h.objs.size) _ _ _
  simp only [dictMade, show finalisedInACycleAlone "function" = false by decide +kernel, Bool.false_eq_true, if_false]
  refine wpAny_pure ?_
  refine store_first ⟨{ cls := .type "dict", data := .dict #[] }, #[], _, (Heap.get?_update_ne _ _ _ _ far.symm).trans (Heap.get?_push_at rfl rfl), rfl, fun e he => by simp at he, fun _ => rfl⟩ fun h' tk' hD keep => ?_
  refine hq h' tk' h.objs.size (by rw [keep x far]; exact Heap.get?_update_self _ old rfl) (Nat.le_refl _) hD fun b o hb he => ?_
  rw [keep b (Nat.ne_of_lt (Heap.lt_size he))]
  exact (Heap.get?_update_ne _ _ _ _ hb).trans (Heap.get?_push_of_some _ he)
theorem allLt_ne1 {d c : Nat} {r : List (Addr × Obj)} (h : AllLt d r) (hc : d ≤ c) : ∀ q ∈ r, @Ne Nat q.1 c := by
  induction r with
  | nil => intro q hq; cases hq
  | cons a r ih =>
    intro q hq
    rcases List.mem_cons.mp hq with rfl | hq
    · have : @LT.lt Nat _ q.1 d := h.1
      exact Nat.ne_of_lt (Nat.lt_of_lt_of_le this hc)
    · exact ih h.2 q hq
structure Seen : Prop where
noncomputable def ReadObj (oD : Obj) (v : Value) : Prop := ∀ (h : Heap) (D : Addr), h.get? D = some oD → h.Ns D (readNs v)
theorem fn_setAttr {prog : Program} {w : World} {A : Around} {E : Value → Shared → Prop} {s : Shared} {x : Addr} {fd : FuncData} {sl : Array (Option Value)} {v : Value} {Q : Unit → Shared → Prop}
    (hx : s.heap.get? x = some { cls := .type "function", dict := none, data := .func fd, slots := sl })
    (hq : ∀ h' tk' D, h'.get? x = some { cls := .type "function", dict := some D, data := .func fd, slots := sl } → s.heap.objs.size ≤ D → (∃ oD, h'.get? D = some oD ∧ h'.Ns D (readNs v)) → (∀ b o, b ≠ x → s.heap.get? b = some o → h'.get? b = some o) → Q () { s with heap := h', toks := tk' }) :
    wpAny (model prog w) A (setAttr (.ref x) "read" v) Q E s := by
  obtain ⟨h, g, d, t, os⟩ := s
  have hT : ∀ tk', (⟨h, g, d, tk', os⟩ : Shared).TypeIs (.ref x) "function" := fun _ => ⟨_, hx, rfl⟩
  have f3 := fnSlotS.lookup
  have f4 := fnSlotS.bind (.ref x)
  unfold setAttr callSpecial?
  repeat (any_goals (first | assumption | exact hT _ | wp_step))
  refine codeAny_call_builtin fnSlotS.plain fn_entryS (fnSlotS.check _ _ _ _ _ _ _ _ (hT _) (fn_argsS _ _ _) (fn_setEntry hx fun h' tk' D e1 e2 e3 e4 => ?_))
  repeat (any_goals (first | assumption | wp_step))
  exact hq _ _ _ e1 e2 e3 e4
theorem fn_setAttr_K {prog : Program} {w : World} {A : Around} {E : Value → Shared → Prop} {s : Shared} {h₀ : Heap} {L x : Addr} {m : Str → Option Value} {news : List (Addr × Obj)} {g : Obj → List (Addr × Obj)} {fd : FuncData} {sl : Array (Option Value)} {v : Value} {Q : Unit → Shared → Prop}
    (F : Fr h₀ L s.heap m) (N : News h₀ L s.heap news) (U : UpdF x { cls := .type "function", dict := none, data := .func fd, slots := sl } news g)
    (h : ∀ D oD h' tk, Fr h₀ L h' m → News h₀ L h' ((D, oD) :: g { cls := .type "function", dict := some D, data := .func fd, slots := sl }) → ReadObj oD v → (∀ q ∈ news, q.1 < D) → Q () { s with heap := h', toks := tk }) :
    wpAny (model prog w) A (setAttr (.ref x) "read" v) Q E s := by
  obtain ⟨own, rest, rfl, hgr, h1, h2⟩ := U.split
  have hm := N (x, _) (List.mem_append_right _ (.head _))
  refine fn_setAttr hm.1 fun h' tk' D e1 e2 e3 e4 => ?_
  obtain ⟨oD, eD, nD⟩ := e3
  have hLs : L < s.heap.objs.size := F.ns.lt
  refine h D oD h' tk' ⟨F.ns.at' (fun o e => e4 _ o (Ne.symm hm.2.1) e), fun b o e => e4 b o (fun q => by rw [q, hm.2.2] at e; cases e) (F.keep b o e), F.above⟩ (fun q hq => ?_) (fun h₂ D₂ e => ?_)
    (fun q hq => Nat.lt_of_lt_of_le (Heap.lt_size (N q hq).1) e2)
  · rcases List.mem_cons.mp hq with rfl | hq
    · exact ⟨eD, Nat.ne_of_gt (Nat.lt_of_lt_of_le hLs e2), Heap.get?_none_of_le (Nat.le_trans F.above (Nat.le_trans (Nat.le_of_lt hLs) e2))⟩
    · rw [hgr] at hq
      rcases List.mem_append.mp hq with hq | hq
      · have n := N q (List.mem_append_left _ hq)
        exact ⟨e4 _ _ (h1 q hq) n.1, n.2⟩
      · rcases List.mem_cons.mp hq with rfl | hq
        · exact ⟨e1, hm.2⟩
        · have n := N q (List.mem_append_right _ (.tail _ hq))
          exact ⟨e4 _ _ (h2 q hq) n.1, n.2⟩
  · obtain ⟨o', es, ep, f1, f2, f3, f4⟩ := nD
    obtain rfl : oD = o' := Option.some.inj (eD.symm.trans f1)
    exact ⟨oD, es, ep, e, f2, f3, f4⟩
theorem fsa {prog : Program} {w : World} {A : Around} {E : Value → Shared → Prop} {s : Shared} {h₀ : Heap} {L x : Addr} {m : Str → Option Value} {news : List (Addr × Obj)} {g : Obj → List (Addr × Obj)} {fd : FuncData} {sl : Array (Option Value)} {v : Value} {Q : Unit → Shared → Prop}
    (h : ∀ D oD h' tk, Fr h₀ L h' m → News h₀ L h' ((D, oD) :: g { cls := .type "function", dict := some D, data := .func fd, slots := sl }) → ReadObj oD v → (∀ q ∈ news, q.1 < D) → Q () { s with heap := h', toks := tk })
    (F : Fr h₀ L s.heap m := by k_asm) (N : News h₀ L s.heap news := by k_asm) (U : UpdF x { cls := .type "function", dict := none, data := .func fd, slots := sl } news g := by k_updF) :
    wpAny (model prog w) A (setAttr (.ref x) "read" v) Q E s := fn_setAttr_K F N U h
section
local macro_rules | `(tactic| k_lt $h:ident) => `(tactic| ((with_reducible first | refine lts9 $h ?_ | refine lts8 $h ?_ | refine lts7 $h ?_ | refine lts6 $h ?_ | refine lts5 $h ?_ | refine lts4 $h ?_ | refine lts3 $h ?_ | refine lts2 $h ?_ | refine lts1 $h ?_); intro $h:ident; intros; (first | (have w9 : Seen := (by assumption); clear $h) | have w9 : Seen := Seen.mk)))
local macro_rules | `(tactic| k_all) => `(tactic| exact allLt_ne1 (by assumption) (by omega))
local macro_rules | `(tactic| k_all) => `(tactic| with_reducible assumption)
local macro_rules | `(tactic| walk_at "setAttr") => `(tactic| (k_dflt (refine fsa ?_); k_whole; intros; rename_i N' r' l1; (try dsimp only at N'); (try k_lt l1)))
noncomputable def bReadQ : Str := (Str.ofString "_law_stream" ++ Str.ofString ".<locals>.") ++ Str.ofString "read"
noncomputable def rdStmt : Stmt := stAt (fnB [37]) 1
noncomputable def IsRead (oR : Obj) (cel c1 : Addr) : Prop := ∃ dc pm ct, oR = fnMade (Str.ofString "read") bReadQ (defArgs rdStmt) (defBody rdStmt) (defScope rdStmt) [(Str.ofString "left", cel)] dc pm c1 ct
noncomputable def CodeOk (oc : Obj) (q : Str) : Prop := ∃ vs t, oc.data = .fields vs ∧ vs[1]? = some (.str q t)
noncomputable abbrev tab9 (c1 c2 : Addr) : Obj := tabObj #[rawInt 808, rawInt 4, .ref c1, rawInt 812, rawInt 13, .ref c2]
noncomputable def IsStream (fs lst : Addr) (R news : List (Addr × Obj)) : Prop := ∃ D oD oS fr oR cel oC c1 oc1 c2, R = (D, oD) :: (fs, oS) :: (fr, oR) :: (cel, oC) :: (797, tab9 c1 c2) :: (c1, oc1) :: news ∧ (∀ q ∈ R, @Ne Nat q.1 lst) ∧
  ReadObj oD (.ref fr) ∧ (∃ fd sl, oS = { cls := .type "function", dict := some D, data := .func fd, slots := sl }) ∧ IsRead oR cel c1 ∧ oC.data = .cell (some (.ref lst)) ∧ CodeOk oc1 bReadQ
@[elab_as_elim] theorem IsStream.open {fs lst : Addr} {R news : List (Addr × Obj)} {P : List (Addr × Obj) → Prop} (h : IsStream fs lst R news)
    (k : ∀ (D : Addr) (oD : Obj) (fr : Addr) (oR : Obj) (cel : Addr) (oC : Obj) (c1 : Addr) (oc1 : Obj) (c2 : Addr) (fd : FuncData) (sl : Array (Option Value)), IsStream fs lst ((D, oD) :: (fs, { cls := .type "function", dict := some D, data := .func fd, slots := sl }) :: (fr, oR) :: (cel, oC) :: (797, tab9 c1 c2) :: (c1, oc1) :: news) news → (∀ q ∈ ((D, oD) :: (fs, { cls := .type "function", dict := some D, data := .func fd, slots := sl }) :: (fr, oR) :: (cel, oC) :: (797, tab9 c1 c2) :: (c1, oc1) :: news), @Ne Nat q.1 lst) →
      ReadObj oD (.ref fr) → IsRead oR cel c1 → oC.data = .cell (some (.ref lst)) → CodeOk oc1 bReadQ → P ((D, oD) :: (fs, { cls := .type "function", dict := some D, data := .func fd, slots := sl }) :: (fr, oR) :: (cel, oC) :: (797, tab9 c1 c2) :: (c1, oc1) :: news)) : P R := by
  have h0 := h
  obtain ⟨D, oD, oS, fr, oR, cel, oC, c1, oc1, c2, rfl, hne, hrd, ⟨fd, sl, rfl⟩, hR, hC, hc1⟩ := h
  exact k _ _ _ _ _ _ _ _ _ _ _ h0 hne hrd hR hC hc1
noncomputable def IsStreamAt (c1 c2 : Addr) (oc1 : Obj) (fs lst : Addr) (R news : List (Addr × Obj)) : Prop := ∃ D oD oS fr oR cel oC, R = (D, oD) :: (fs, oS) :: (fr, oR) :: (cel, oC) :: (797, tab9 c1 c2) :: (c1, oc1) :: news ∧ (∀ q ∈ R, @Ne Nat q.1 lst) ∧
  ReadObj oD (.ref fr) ∧ (∃ fd sl, oS = { cls := .type "function", dict := some D, data := .func fd, slots := sl }) ∧ IsRead oR cel c1 ∧ oC.data = .cell (some (.ref lst)) ∧ CodeOk oc1 bReadQ
theorem isRead_of {qual : Str} {params : Arguments} {body : List Stmt} {scope : Scope} {dc pm ct : Value} {cel c1 : Addr} (h1 : bReadQ = qual) (h2 : defArgs rdStmt = params) (h3 : defBody rdStmt = body) (h4 : defScope rdStmt = scope) :
    IsRead (fnMade (Str.ofString "read") qual params body scope [(Str.ofString "left", cel)] dc pm c1 ct) cel c1 := by subst h1 h2 h3 h4; exact ⟨dc, pm, ct, rfl⟩
theorem news_st0 {h₀ h : Heap} {L : Addr} {a b c d e f g k : Addr × Obj} {r : List (Addr × Obj)} (N : News h₀ L h (a :: b :: c :: d :: e :: f :: g :: k :: r)) : News h₀ L h (f :: a :: b :: d :: g :: k :: e :: r) := fun p hp => by
  refine N p ?_
  revert p hp; walk_at "SUBM"
theorem news_st1 {h₀ h : Heap} {L : Addr} {a b d e f g k : Addr × Obj} {r : List (Addr × Obj)} (N : News h₀ L h (a :: b :: d :: f :: g :: k :: e :: r)) : News h₀ L h (f :: a :: b :: d :: g :: k :: e :: r) := fun p hp => by
  refine N p ?_
  revert p hp; walk_at "SUBM"
theorem c_stream0 : Wants PySem.Challenge.rw_in0077_01 Mine.K → ∀ (prog : Program) (w : World) (p : Program) (loose : List Str) (mean : ExcName → Option Value) (mg mb : Str → Option Value) (news : List (Addr × Obj)) (b : Array UInt8) (t : Tok), (∀ q ∈ news, @Ne Nat q.1 797) →
  Claim prog w (Mine.K w.params) p loose mean mg mb ((797, tabObj #[]) :: news) 3 40 (call (.ref 802) [.bytes b t]) (fun v news' => ∃ c1 c2 oc1, (∀ z ∈ news, @Ne Nat z.1 c1) ∧ ∃ fs lst n R, v = .ref fs ∧ news' = (lst, listOf #[.bytes b t] n) :: R ∧ IsStreamAt c1 c2 oc1 fs lst R news) := by
  k_fill
  intro _ prog w p loose mean mg mb news b t h797 dp un gd cn cs a ccd cl outer A₀ base h₀ L m s Q E B F X N T hk hd hu hret
  refine wpAny_call ?_
  k_enter
  rename (Mine.K w.params).In _ => X9
  have C9 := codeHd_of_K (c := 801) (P := 797) X9 (by kernel_rfl)
  k_steps
  rename News h₀ _ _ _ => N9
  refine hret _ _ _ _ ⟨_, _, _, ?refine_0, _, _, _, _, rfl, rfl, _, _, _, _, _, _, _, rfl, ?refine_1, by assumption, ⟨_, _, rfl⟩, isRead_of ?refine_2 ?refine_3 ?refine_4 ?refine_5, by assumption, ⟨_, _, by assumption, by assumption⟩⟩ (by k_asm) (news_st0 N9)
  case refine_0 => exact allLt_ne1 (by assumption) (by omega)
  case refine_1 => repeat (first | exact List.forall_mem_nil _ | (with_reducible assumption) | exact allLt_ne1 (by assumption) (by omega) | (refine' List.forall_mem_cons.mpr ⟨?_, ?_⟩; (case refine'_1 => k_ne)))
  case refine_2 => exact rfl
  case refine_3 => walk_at "WHNF"
  case refine_4 => walk_at "WHNF"
  case refine_5 => walk_at "WHNF"
theorem c_stream1 : Wants PySem.Challenge.rw_in0077_01 Mine.K → ∀ (prog : Program) (w : World) (p : Program) (loose : List Str) (mean : ExcName → Option Value) (mg mb : Str → Option Value) (news : List (Addr × Obj)) (b : Array UInt8) (t : Tok) (c1 c2 : Addr) (oc1 : Obj), CodeOk oc1 bReadQ →
  Claim prog w (Mine.K w.params) p loose mean mg mb ((797, tab9 c1 c2) :: (c1, oc1) :: news) 3 40 (call (.ref 802) [.bytes b t]) (fun v news' => ∃ fs lst n R, v = .ref fs ∧ news' = (lst, listOf #[.bytes b t] n) :: R ∧ IsStreamAt c1 c2 oc1 fs lst R news) := by
  k_fill
  intro _ prog w p loose mean mg mb news b t c1 c2 oc1 hc dp un gd cn cs a ccd cl outer A₀ base h₀ L m s Q E B F X N T hk hd hu hret
  refine wpAny_call ?_
  k_enter
  rename (Mine.K w.params).In _ => X9
  have C9 := codeHd_of_K (c := 801) (P := 797) X9 (by kernel_rfl)
  k_steps
  rename News h₀ _ _ _ => N9
  refine hret _ _ _ _ ⟨_, _, _, _, rfl, rfl, _, _, _, _, _, _, _, rfl, ?_, by assumption, ⟨_, _, rfl⟩, isRead_of ?_ ?_ ?_ ?_, by assumption, hc⟩ (by k_asm) (news_st1 N9)
  case refine_1 => repeat (first | exact List.forall_mem_nil _ | (with_reducible assumption) | exact allLt_ne1 (by assumption) (by omega) | (refine' List.forall_mem_cons.mpr ⟨?_, ?_⟩; (case refine'_1 => k_ne)))
  case refine_2 => exact rfl
  case refine_3 => walk_at "WHNF"
  case refine_4 => walk_at "WHNF"
  case refine_5 => walk_at "WHNF"
theorem take_min9 (n : Nat) (ks : List Int) : List.take (min n ks.length) ks = List.take n ks := by
  rcases Nat.le_total n ks.length with h | h
  · rw [Nat.min_eq_left h]
  · rw [Nat.min_eq_right h, List.take_of_length_le (Nat.le_refl _), List.take_of_length_le h]
theorem drop_min9 (n : Nat) (ks : List Int) : List.take (ks.length - min n ks.length) (List.drop (min n ks.length) ks) = List.drop n ks := by
  rcases Nat.le_total n ks.length with h | h
  · rw [Nat.min_eq_left h, List.take_of_length_le]; rw [List.length_drop]; exact Nat.le_refl _
  · rw [Nat.min_eq_right h, List.drop_of_length_le h, List.drop_of_length_le (Nat.le_refl _), List.take_nil]
theorem IsRead.lit {P : Prop} {oR : Obj} {cel c1 : Addr} {params' : Arguments} {body' : List Stmt} {scope' : Scope} (h : IsRead oR cel c1) (h2 : defArgs rdStmt = params') (h3 : defBody rdStmt = body') (h4 : defScope rdStmt = scope')
    (k : ∀ dc pm ct, oR = fnMade (Str.ofString "read") bReadQ params' body' scope' [(Str.ofString "left", cel)] dc pm c1 ct → P) : P := by
  subst h2 h3 h4
  obtain ⟨dc, pm, ct, e⟩ := h
  exact k dc pm ct e
theorem c_fread : Wants PySem.Challenge.rw_in0077_01 Mine.K → ∀ (prog : Program) (w : World) (p : Program) (loose : List Str) (mean : ExcName → Option Value) (mg mb : Str → Option Value) (news : List (Addr × Obj)) (b : Array UInt8) (t tn : Tok) (ks : List Int) (n n0 : Nat) (lst cel fr c1 P D fs : Addr) (oD oS oR oC oT oc1 : Obj),
  KBw.bInts b = ks → ks.length ≤ 400 → n ≤ 400 → IsRead oR cel c1 → oC.data = .cell (some (.ref lst)) → CodeOk oc1 bReadQ → (∀ q ∈ (D, oD) :: (fs, oS) :: (fr, oR) :: (cel, oC) :: (P, oT) :: (c1, oc1) :: news, @Ne Nat q.1 lst) →
  Claim prog w (Mine.K w.params) p loose mean mg mb ((lst, listOf #[.bytes b t] n0) :: (D, oD) :: (fs, oS) :: (fr, oR) :: (cel, oC) :: (P, oT) :: (c1, oc1) :: news) 3 40 (call (.ref fr) [.int n tn])
    (fun v news' => ∃ b1 t1 b2 t2 n', v = .bytes b1 t1 ∧ KBw.bInts b1 = ks.take n ∧ KBw.bInts b2 = ks.drop n ∧ news' = (lst, listOf #[.bytes b2 t2] n') :: (D, oD) :: (fs, oS) :: (fr, oR) :: (cel, oC) :: (P, oT) :: (c1, oc1) :: news) := by
  k_fill
  intro _ prog w p loose mean mg mb news b t tn ks n n0 lst cel fr c1 P D fs oD oS oR oC oT oc1 hb hks hn hR hC hc1 hne dp un gd cn cs a ccd cl outer A₀ base h₀ L m s Q E B F X N T hk hd hu hret
  obtain ⟨vs1, t1, hc1d, hc1v⟩ := hc1
  refine' IsRead.lit hR ?q2 ?q3 ?q4 ?_
  case q2 => walk_at "WHNF"
  case q3 => walk_at "WHNF"
  case q4 => walk_at "WHNF"
  intro dc pm ct eR
  subst eR
  clear hR
  refine wpAny_call ?_
  kn_enter
  rename (Mine.K w.params).In _ => X9
  have C9 := codeHd_of_K (c := 801) (P := 797) X9 (by kernel_rfl)
  k_steps
  all_goals (rename News h₀ _ _ _ => N9; refine hret _ _ _ _ ⟨_, _, _, _, _, rfl, ?_, ?_, rfl⟩ (by k_asm) N9)
  case refine_1 => rename KBw.bInts _ = List.take _ ks => h9; rw [h9, take_min9]
  case refine_2 => rename KBw.bInts _ = List.take _ (List.drop _ ks) => h9; rw [h9, drop_min9]
theorem c_freadI {P : Program} (hW : Wants PySem.Challenge.rw_in0077_01 Mine.K) (w : World) (p : Program) (loose : List Str) (mean : ExcName → Option Value) (mg mb : Str → Option Value) (news : List (Addr × Obj)) (b : Array UInt8) (t tn : Tok) (ks : List Int) (z : Int) (n n0 : Nat) (lst fr c1 D fs : Addr) (cel : Addr) (oD oS oR oC oT oc1 : Obj) (Pa : Addr)
    (hb : KBw.bInts b = ks) (hks : ks.length ≤ 400) (hz : z = (n : Int)) (hn : n ≤ 400) (hR : IsRead oR cel c1) (hC : oC.data = .cell (some (.ref lst))) (hc : CodeOk oc1 bReadQ) (hne : ∀ q ∈ (D, oD) :: (fs, oS) :: (fr, oR) :: (cel, oC) :: (Pa, oT) :: (c1, oc1) :: news, @Ne Nat q.1 lst) :
  Claim P w (Mine.K w.params) p loose mean mg mb ((lst, listOf #[.bytes b t] n0) :: (D, oD) :: (fs, oS) :: (fr, oR) :: (cel, oC) :: (Pa, oT) :: (c1, oc1) :: news) 3 40 (call (.ref fr) [.int z tn])
    (fun v news' => ∃ b1 t1 b2 t2 n', v = .bytes b1 t1 ∧ KBw.bInts b1 = ks.take n ∧ KBw.bInts b2 = ks.drop n ∧ news' = (lst, listOf #[.bytes b2 t2] n') :: (D, oD) :: (fs, oS) :: (fr, oR) :: (cel, oC) :: (Pa, oT) :: (c1, oc1) :: news) := by
  subst hz
  exact c_fread hW P w p loose mean mg mb news b t tn ks n n0 lst cel fr c1 Pa D fs oD oS oR oC oT oc1 hb hks hn hR hC hc hne
theorem use_fread {prog : Program} {w : World} {p : Program} {loose : List Str} {mean : ExcName → Option Value} {mg mb : Str → Option Value} {news : List (Addr × Obj)} {b : Array UInt8} {t tn : Tok} {ks : List Int} {z : Int} {n n0 : Nat} {lst fr c1 D fs cel Pa : Addr} {oD oS oR oC oT oc1 : Obj} {A : Around} {cn : Str} {cs : Scope} {a : Addr} {ccd : Value} {cl : List (Str × Addr)} {outer : List Env} {A₀ : Around} {base h₀ : Heap} {L : Addr} {m : Str → Option Value} {hp : Heap} {gs : Array GenState} {dr : Drawn} {tk9 : Nat} {os : OsState} {Q E : Value → Shared → Prop}
    (N : News h₀ L hp ((lst, listOf #[.bytes b t] n0) :: (D, oD) :: (fs, oS) :: (fr, oR) :: (cel, oC) :: (Pa, oT) :: (c1, oc1) :: news)) (ret : ∀ (b1 : Array UInt8) (t1 : Tok) (b2 : Array UInt8) (t2 : Tok) (n2 : Nat) (h' : Heap) (tk' : Nat), KBw.bInts b1 = ks.take n → KBw.bInts b2 = ks.drop n → Fr h₀ L h' m → News h₀ L h' ((lst, listOf #[.bytes b2 t2] n2) :: (D, oD) :: (fs, oS) :: (fr, oR) :: (cel, oC) :: (Pa, oT) :: (c1, oc1) :: news) → Q (.bytes b1 t1) ⟨h', gs, dr, tk', os⟩)
    (hb : KBw.bInts b = ks := by assumption) (hks : ks.length ≤ 400 := by assumption) (hz : z = (n : Int) := by first | assumption | exact rfl) (hn : n ≤ 400 := by first | assumption | decide) (hR : IsRead oR cel c1 := by assumption) (hC : oC.data = .cell (some (.ref lst)) := by assumption) (hc : CodeOk oc1 bReadQ := by assumption) (hne : ∀ q ∈ (D, oD) :: (fs, oS) :: (fr, oR) :: (cel, oC) :: (Pa, oT) :: (c1, oc1) :: news, @Ne Nat q.1 lst := by assumption)
    (B : Below A₀ base outer h₀ := by k_asm) (hA : A.frames = some (envX cn cs L a ccd cl :: outer) := by exact rfl) (hh : A.handled = none := by exact rfl) (F : Fr h₀ L hp m := by k_asm) (X : (Mine.K w.params).In h₀ := by k_asm) (T : Top p loose mean mg mb h₀ := by k_asm) (hk : cs.kind = .function := by first | exact rfl | assumption) (hd : A.depth + 3 < recursionLimit := by ktr_room) (hu : A.units + 40 < cLine := by ktr_units) :
    wpAny (model prog w) A (call (.ref fr) [.int z tn]) Q E ⟨hp, gs, dr, tk9, os⟩ := by
  refine Claim.useA (c_freadI trivial w p loose mean mg mb news b t tn ks z n n0 lst fr c1 D fs cel oD oS oR oC oT oc1 Pa hb hks hz hn hR hC hc hne) hA hh B F X N T hk hd hu ?_
  rintro v n' h' tk' ⟨b1, t1, b2, t2, n2, rfl, q0, q1, rfl⟩ F' N'
  exact ret b1 t1 b2 t2 n2 h' tk' q0 q1 F' N'
theorem use_fread1 {prog : Program} {w : World} {p : Program} {loose : List Str} {mean : ExcName → Option Value} {mg mb : Str → Option Value} {news : List (Addr × Obj)} {b : Array UInt8} {t tn : Tok} {k : Int} {ks : List Int} {n0 : Nat} {lst fr c1 D fs cel Pa : Addr} {oD oS oR oC oT oc1 : Obj} {A : Around} {cn : Str} {cs : Scope} {a : Addr} {ccd : Value} {cl : List (Str × Addr)} {outer : List Env} {A₀ : Around} {base h₀ : Heap} {L : Addr} {m : Str → Option Value} {hp : Heap} {gs : Array GenState} {dr : Drawn} {tk9 : Nat} {os : OsState} {Q E : Value → Shared → Prop}
    (N : News h₀ L hp ((lst, listOf #[.bytes b t] n0) :: (D, oD) :: (fs, oS) :: (fr, oR) :: (cel, oC) :: (Pa, oT) :: (c1, oc1) :: news)) (ret : ∀ (b1 : Array UInt8) (t1 : Tok) (b2 : Array UInt8) (t2 : Tok) (n2 : Nat) (h' : Heap) (tk' : Nat), KBw.bInts b1 = [k] → KBw.bInts b2 = ks → Fr h₀ L h' m → News h₀ L h' ((lst, listOf #[.bytes b2 t2] n2) :: (D, oD) :: (fs, oS) :: (fr, oR) :: (cel, oC) :: (Pa, oT) :: (c1, oc1) :: news) → Q (.bytes b1 t1) ⟨h', gs, dr, tk', os⟩)
    (hb : KBw.bInts b = k :: ks := by with_reducible assumption) (hks : (k :: ks).length ≤ 400 := by assumption) (hR : IsRead oR cel c1 := by assumption) (hC : oC.data = .cell (some (.ref lst)) := by assumption) (hc : CodeOk oc1 bReadQ := by assumption) (hne : ∀ q ∈ (D, oD) :: (fs, oS) :: (fr, oR) :: (cel, oC) :: (Pa, oT) :: (c1, oc1) :: news, @Ne Nat q.1 lst := by assumption)
    (B : Below A₀ base outer h₀ := by k_asm) (hA : A.frames = some (envX cn cs L a ccd cl :: outer) := by exact rfl) (hh : A.handled = none := by exact rfl) (F : Fr h₀ L hp m := by k_asm) (X : (Mine.K w.params).In h₀ := by k_asm) (T : Top p loose mean mg mb h₀ := by k_asm) (hk : cs.kind = .function := by first | exact rfl | assumption) (hd : A.depth + 3 < recursionLimit := by ktr_room) (hu : A.units + 40 < cLine := by ktr_units) :
    wpAny (model prog w) A (call (.ref fr) [.int 1 tn]) Q E ⟨hp, gs, dr, tk9, os⟩ :=
  use_fread (ks := k :: ks) (z := 1) (n := 1) N ret hb hks rfl (by decide) hR hC hc hne B hA hh F X T hk hd hu
theorem use_fread0 {prog : Program} {w : World} {p : Program} {loose : List Str} {mean : ExcName → Option Value} {mg mb : Str → Option Value} {news : List (Addr × Obj)} {b : Array UInt8} {t tn : Tok} {n0 : Nat} {lst fr c1 D fs cel Pa : Addr} {oD oS oR oC oT oc1 : Obj} {A : Around} {cn : Str} {cs : Scope} {a : Addr} {ccd : Value} {cl : List (Str × Addr)} {outer : List Env} {A₀ : Around} {base h₀ : Heap} {L : Addr} {m : Str → Option Value} {hp : Heap} {gs : Array GenState} {dr : Drawn} {tk9 : Nat} {os : OsState} {Q E : Value → Shared → Prop}
    (N : News h₀ L hp ((lst, listOf #[.bytes b t] n0) :: (D, oD) :: (fs, oS) :: (fr, oR) :: (cel, oC) :: (Pa, oT) :: (c1, oc1) :: news)) (ret : ∀ (b1 : Array UInt8) (t1 : Tok) (b2 : Array UInt8) (t2 : Tok) (n2 : Nat) (h' : Heap) (tk' : Nat), KBw.bInts b1 = [] → KBw.bInts b2 = [] → Fr h₀ L h' m → News h₀ L h' ((lst, listOf #[.bytes b2 t2] n2) :: (D, oD) :: (fs, oS) :: (fr, oR) :: (cel, oC) :: (Pa, oT) :: (c1, oc1) :: news) → Q (.bytes b1 t1) ⟨h', gs, dr, tk', os⟩)
    (hb : KBw.bInts b = [] := by with_reducible assumption) (hR : IsRead oR cel c1 := by assumption) (hC : oC.data = .cell (some (.ref lst)) := by assumption) (hc : CodeOk oc1 bReadQ := by assumption) (hne : ∀ q ∈ (D, oD) :: (fs, oS) :: (fr, oR) :: (cel, oC) :: (Pa, oT) :: (c1, oc1) :: news, @Ne Nat q.1 lst := by assumption)
    (B : Below A₀ base outer h₀ := by k_asm) (hA : A.frames = some (envX cn cs L a ccd cl :: outer) := by exact rfl) (hh : A.handled = none := by exact rfl) (F : Fr h₀ L hp m := by k_asm) (X : (Mine.K w.params).In h₀ := by k_asm) (T : Top p loose mean mg mb h₀ := by k_asm) (hk : cs.kind = .function := by first | exact rfl | assumption) (hd : A.depth + 3 < recursionLimit := by ktr_room) (hu : A.units + 40 < cLine := by ktr_units) :
    wpAny (model prog w) A (call (.ref fr) [.int 1 tn]) Q E ⟨hp, gs, dr, tk9, os⟩ :=
  use_fread (ks := []) (z := 1) (n := 1) N ret hb (by decide) rfl (by decide) hR hC hc hne B hA hh F X T hk hd hu
theorem getMethod_read {prog : Program} {w : World} {A : Around} {E : Value → Shared → Prop} {s : Shared} {h₀ : Heap} {L fs fr D : Addr} {news : List (Addr × Obj)} {fd : FuncData} {sl : Array (Option Value)} {oD : Obj} {pl : Sem Bool} {Q : Value × List Value → Shared → Prop}
    (N : News h₀ L s.heap news) (h1 : (fs, ({ cls := .type "function", dict := some D, data := .func fd, slots := sl } : Obj)) ∈ news) (h2 : (D, oD) ∈ news) (hr : ReadObj oD (.ref fr)) (hq : ∀ tk, Q (.ref fr, []) { s with toks := tk }) :
    wpAny (model prog w) A (getMethod (.ref fs) "read" pl) Q E s :=
  fn_getMethod (N _ h1).1 (hr _ _ (N _ h2).1) rfl ⟨fr, rfl⟩ hq
theorem rdFnAt {h₀ h : Heap} {L q : Addr} {news : List (Addr × Obj)} {oR : Obj} {cel c1 : Addr} (N : News h₀ L h news) (hm : (q, oR) ∈ news) (hR : IsRead oR cel c1) : FnAt q h := by
  obtain ⟨dc, pm, ct, rfl⟩ := hR
  exact FnAt.of N hm
theorem truthy_b1 {prog : Program} {w : World} {A : Around} {E : Value → Shared → Prop} {s : Shared} {b : Array UInt8} {t : Tok} {k : Int} {ks : List Int} {Q : Bool → Shared → Prop} (h : Q true { s with toks := s.toks + 1 + 1 }) (hk : KBw.bInts b = k :: ks := by with_reducible assumption) (hfit : (k :: ks).length ≤ 1099511627776 := by (simp only [List.length_cons, List.length_nil] at *; omega)) : wpAny (model prog w) A (truthy (.bytes b t)) Q E s :=
  KBw.truthy_K hk hfit (by rw [show decide (0 < (k :: ks).length) = true from decide_eq_true (Nat.succ_pos _)]; exact h)
theorem truthy_b0 {prog : Program} {w : World} {A : Around} {E : Value → Shared → Prop} {s : Shared} {b : Array UInt8} {t : Tok} {Q : Bool → Shared → Prop} (h : Q false { s with toks := s.toks + 1 + 1 }) (hk : KBw.bInts b = [] := by with_reducible assumption) : wpAny (model prog w) A (truthy (.bytes b t)) Q E s :=
  KBw.truthy_K hk (by decide) h
theorem item_b0 {prog : Program} {w : World} {A : Around} {E : Value → Shared → Prop} {s : Shared} {value slice : PySem.Expr} {b : Array UInt8} {t ui : Tok} {k : Int} {ks : List Int} {Q : Value → Shared → Prop} (h : ∀ t' kk, Q (.int k t') { s with toks := kk }) (hk : KBw.bInts b = k :: ks := by with_reducible assumption) (hfit : (k :: ks).length ≤ 1099511627776 := by (simp only [List.length_cons, List.length_nil] at *; omega))
    (hs : subscripted slice false (.bytes b t) (.int 0 ui) = operate [.bytes b t, .int 0 ui] (getItem (.bytes b t) (.int 0 ui)) := by with_unfolding_all rfl)
    (ht : ∀ r, letTemporaryGo value (.bytes b t) r = pure () := by intro _; with_unfolding_all rfl) : wpAny (model prog w) A (subscriptTail value slice (.bytes b t) (.int 0 ui)) Q E s :=
  KBw.item_K hk hfit (Int.le_refl 0) (by simp only [List.length_cons]; omega) (fun t' kk _ _ => h t' kk) hs ht
theorem gmr {prog : Program} {w : World} {A : Around} {E : Value → Shared → Prop} {s : Shared} {h₀ : Heap} {L fs fr D : Addr} {news : List (Addr × Obj)} {fd : FuncData} {sl : Array (Option Value)} {oD : Obj} {pl : Sem Bool} {Q : Value × List Value → Shared → Prop}
    (hq : ∀ tk, Q (.ref fr, []) { s with toks := tk }) (N : News h₀ L s.heap news := by k_asm) (h1 : (fs, ({ cls := .type "function", dict := some D, data := .func fd, slots := sl } : Obj)) ∈ news := by k_mem) (h2 : (D, oD) ∈ news := by k_mem) (hr : ReadObj oD (.ref fr) := by assumption) :
    wpAny (model prog w) A (getMethod (.ref fs) "read" pl) Q E s := getMethod_read N h1 h2 hr hq
end
section
local macro_rules | `(tactic| walk_at "getMethod ref") => `(tactic| (k_dflt (refine gmr ?_); intros))
local macro_rules | `(tactic| walk_at "callWith ref") => `(tactic| (k_dflt (refine callWith_F (by walk_at "FnAt") ?_; k_whole)))
local macro_rules | `(tactic| walk_at "FnAt") => `(tactic| (k_dflt (exact rdFnAt (by assumption) (by k_mem) (by assumption))))
local macro_rules | `(tactic| walk_at "call ref") => `(tactic| first | ktr_call _ use_fread1 | ktr_call _ use_fread0 | ktr_call _ use_fread)
local macro_rules | `(tactic| walk_at "truthy bytes") => `(tactic| first | refine truthy_b1 ?_ | refine truthy_b0 ?_)
local macro_rules | `(tactic| walk_at "subscriptTail") => `(tactic| (refine item_b0 ?_; intros))
theorem c_uint1 : Wants PySem.Challenge.rw_in0077_01 Mine.K → ∀ (prog : Program) (w : World) (p : Program) (loose : List Str) (mean : ExcName → Option Value) (mg mb : Str → Option Value) (news R : List (Addr × Obj)) (b : Array UInt8) (t : Tok) (k : Int) (ks : List Int) (n0 : Nat) (lst fs : Addr),
  KBw.bInts b = k :: ks → (k :: ks).length ≤ 400 → IsStream fs lst R news →
  Claim prog w (Mine.K w.params) p loose mean mg mb ((lst, listOf #[.bytes b t] n0) :: R) 5 60 (call (.ref 51) [.ref fs])
    (fun v news' => ∃ tv b2 t2 n', v = .int k tv ∧ KBw.bInts b2 = ks ∧ news' = (lst, listOf #[.bytes b2 t2] n') :: R) := by
  k_fill
  intro _ prog w p loose mean mg mb news R b t k ks n0 lst fs hb hks hS
  refine hS.open ?_
  clear hS
  intro D oD fr oR cel oC c1 oc1 c2 fd sl hS0 hne hrd hR hC hc1 dp un gd cn cs a ccd cl outer A₀ base h₀ L m s Q E B F X N T hk hd hu hret
  walk_at "ENTER"
  k_steps
  rename News h₀ _ _ _ => N9
  refine hret _ _ _ _ ⟨_, _, _, _, rfl, ?_, rfl⟩ (by k_asm) N9
  assumption
section
local macro_rules | `(tactic| walk_at "leaving ref") => `(tactic| (k_dflt (refine lvOn ?_); k_whole; intros))
local macro_rules | `(tactic| walk_at "leaving ref") => `(tactic| (k_dflt (refine lvNew ?_); k_whole; intros))
noncomputable abbrev ClaimN (prog : Program) (w : World) (K : Frag) (p : Program) (loose : List Str) (mean : ExcName → Option Value) (mg mb : Str → Option Value) (news : List (Addr × Obj)) (dd uu : Nat) (cal : Sem Value) (X : String) (Esc : List (Addr × Obj) → Prop) : Prop :=
  ∀ (dp un : Nat) (gd : Option (List Code)) (cn : Str) (cs : Scope) (a : Addr) (ccd : Value) (cl : List (Str × Addr)) (outer : List Env) (A₀ : Around) (base h₀ : Heap) (L : Addr) (m : Str → Option Value) (s : Shared) (Q E : Value → Shared → Prop),
    Below A₀ base outer h₀ → Fr h₀ L s.heap m → K.In h₀ → News h₀ L s.heap news → Top p loose mean mg mb h₀ → cs.kind = .function → dp + dd < recursionLimit → un + uu < cLine →
    (∀ e g news' h' tk', Esc news' → Fr h₀ L g m → RaisedSN base g (envX cn cs L a ccd cl :: outer) e (.type X) news' h' → g.UpToSlots h' → E (.ref e) { s with heap := h', toks := tk' }) →
    wpAny (model prog w) (ktrTop dp un gd cn cs L a ccd cl outer) cal Q E s
theorem ClaimN.use {prog : Program} {w : World} {K : Frag} {p : Program} {loose : List Str} {mean : ExcName → Option Value} {mg mb : Str → Option Value} {news : List (Addr × Obj)} {dd uu : Nat} {cal : Sem Value} {X : String} {Esc : List (Addr × Obj) → Prop}
    {dp un : Nat} {gd : Option (List Code)} {cn : Str} {cs : Scope} {a : Addr} {ccd : Value} {cl : List (Str × Addr)} {outer : List Env} {A₀ : Around} {base h₀ : Heap} {L : Addr} {m : Str → Option Value} {s : Shared} {Q E : Value → Shared → Prop}
    (C : ClaimN prog w K p loose mean mg mb news dd uu cal X Esc) (B : Below A₀ base outer h₀) (F : Fr h₀ L s.heap m) (X₀ : K.In h₀) (N : News h₀ L s.heap news) (T : Top p loose mean mg mb h₀) (hk : cs.kind = .function) (hd : dp + dd < recursionLimit) (hu : un + uu < cLine)
    (esc : ∀ e g news' h' tk', Esc news' → Fr h₀ L g m → RaisedSN base g (envX cn cs L a ccd cl :: outer) e (.type X) news' h' → g.UpToSlots h' → E (.ref e) { s with heap := h', toks := tk' }) :
    wpAny (model prog w) (ktrTop dp un gd cn cs L a ccd cl outer) cal Q E s := C _ _ _ _ _ _ _ _ _ _ _ _ _ _ _ _ _ B F X₀ N T hk hd hu esc
theorem ClaimN.useA {prog : Program} {w : World} {K : Frag} {p : Program} {loose : List Str} {mean : ExcName → Option Value} {mg mb : Str → Option Value} {news : List (Addr × Obj)} {dd uu : Nat} {cal : Sem Value} {X : String} {Esc : List (Addr × Obj) → Prop}
    {A A₀ : Around} {cn : Str} {cs : Scope} {a : Addr} {ccd : Value} {cl : List (Str × Addr)} {outer : List Env} {base h₀ h : Heap} {L : Addr} {m : Str → Option Value} {gs : Array GenState} {dr : Drawn} {t : Nat} {os : OsState} {Q E : Value → Shared → Prop}
    (C : ClaimN prog w K p loose mean mg mb news dd uu cal X Esc) (hA : A.frames = some (envX cn cs L a ccd cl :: outer)) (hh : A.handled = none) (B : Below A₀ base outer h₀) (F : Fr h₀ L h m) (X₀ : K.In h₀) (N : News h₀ L h news) (T : Top p loose mean mg mb h₀) (hk : cs.kind = .function) (hd : A.depth + dd < recursionLimit) (hu : A.units + uu < cLine)
    (esc : ∀ e g news' h' tk', Esc news' → Fr h₀ L g m → RaisedSN base g (envX cn cs L a ccd cl :: outer) e (.type X) news' h' → g.UpToSlots h' → E (.ref e) ⟨h', gs, dr, tk', os⟩) :
    wpAny (model prog w) A cal Q E ⟨h, gs, dr, t, os⟩ := by
  obtain ⟨_, d, _, g, u⟩ := A
  cases hA
  cases hh
  exact C d u g cn cs a ccd cl outer A₀ base h₀ L m _ Q E B F X₀ N T hk hd hu esc
theorem c_uint1e : Wants PySem.Challenge.rw_in0077_01 Mine.K → ∀ (prog : Program) (w : World) (p : Program) (loose : List Str) (mean : ExcName → Option Value) (mg mb : Str → Option Value) (news R : List (Addr × Obj)) (b : Array UInt8) (t : Tok) (n0 : Nat) (lst fs : Addr),
  KBw.bInts b = [] → IsStream fs lst R news →
  ClaimN prog w (Mine.K w.params) p loose mean mg mb ((lst, listOf #[.bytes b t] n0) :: R) 5 60 (call (.ref 51) [.ref fs]) "ValueError"
    (fun news' => ∃ b2 t2 n', news' = (lst, listOf #[.bytes b2 t2] n') :: R) := by
  k_fill
  intro _ prog w p loose mean mg mb news R b t n0 lst fs hb hS
  refine hS.open ?_
  clear hS
  intro D oD fr oR cel oC c1 oc1 c2 fd sl hS0 hne hrd hR hC hc1 dp un gd cn cs a ccd cl outer A₀ base h₀ L m s Q E B F X N T hk hd hu hret
  have hks : ([] : List Int).length ≤ 400 := by decide
  walk_at "ENTER"
  k_steps
  all_goals (refine' hret _ _ _ _ _ ?oE ?fE ?rE ?uE; (case rE => assumption); (case uE => assumption); (case fE => assumption); (case oE => exact ⟨_, _, _, rfl⟩))
theorem use_c_uint1 {prog : Program} {w : World} {p : Program} {loose : List Str} {mean : ExcName → Option Value} {mg mb : Str → Option Value} {news R : List (Addr × Obj)} {b : Array UInt8} {t : Tok} {k : Int} {ks : List Int} {n0 : Nat} {lst fs : Addr} {A : Around} {cn : Str} {cs : Scope} {a : Addr} {ccd : Value} {cl : List (Str × Addr)} {outer : List Env} {A₀ : Around} {base h₀ : Heap} {L : Addr} {m : Str → Option Value} {hp : Heap} {gs : Array GenState} {dr : Drawn} {tk9 : Nat} {os : OsState} {Q E : Value → Shared → Prop}
    (N : News h₀ L hp ((lst, listOf #[.bytes b t] n0) :: R)) (ret : ∀ (tv : Tok) (b2 : Array UInt8) (t2 : Tok) (n2 : Nat) (h' : Heap) (tk' : Nat), KBw.bInts b2 = ks → Fr h₀ L h' m → News h₀ L h' ((lst, listOf #[.bytes b2 t2] n2) :: R) → Q (.int k tv) ⟨h', gs, dr, tk', os⟩)
    (g0 : KBw.bInts b = k :: ks := by assumption) (g1 : (k :: ks).length ≤ 400 := by assumption) (g2 : IsStream fs lst R news := by assumption)
    (B : Below A₀ base outer h₀ := by k_asm) (hA : A.frames = some (envX cn cs L a ccd cl :: outer) := by exact rfl) (hh : A.handled = none := by exact rfl) (F : Fr h₀ L hp m := by k_asm) (X : (Mine.K w.params).In h₀ := by k_asm) (T : Top p loose mean mg mb h₀ := by k_asm) (hk : cs.kind = .function := by first | exact rfl | assumption) (hd : A.depth + 5 < recursionLimit := by ktr_room) (hu : A.units + 60 < cLine := by ktr_units) :
    wpAny (model prog w) A (call (.ref 51) [.ref fs]) Q E ⟨hp, gs, dr, tk9, os⟩ := by
  refine Claim.useA (c_uint1 trivial _ _ _ _ _ _ _ _ _ _ _ _ _ _ _ _ g0 g1 g2) hA hh B F X N T hk hd hu ?_
  rintro v n h' tk' ⟨tv, b2, t2, n2, rfl, q0, rfl⟩ F' N'
  exact ret tv b2 t2 n2 h' tk' q0 F' N'
theorem use_c_uint1e {prog : Program} {w : World} {p : Program} {loose : List Str} {mean : ExcName → Option Value} {mg mb : Str → Option Value} {news R : List (Addr × Obj)} {b : Array UInt8} {t : Tok} {n0 : Nat} {lst fs : Addr} {A : Around} {cn : Str} {cs : Scope} {a : Addr} {ccd : Value} {cl : List (Str × Addr)} {outer : List Env} {A₀ : Around} {base h₀ : Heap} {L : Addr} {m : Str → Option Value} {hp : Heap} {gs : Array GenState} {dr : Drawn} {tk9 : Nat} {os : OsState} {Q E : Value → Shared → Prop}
    (N : News h₀ L hp ((lst, listOf #[.bytes b t] n0) :: R)) (ret : ∀ (e : Addr) (g : Heap) (b2 : Array UInt8) (t2 : Tok) (n2 : Nat) (h' : Heap) (tk' : Nat), Fr h₀ L g m → RaisedSN base g (envX cn cs L a ccd cl :: outer) e (.type "ValueError") ((lst, listOf #[.bytes b2 t2] n2) :: R) h' → g.UpToSlots h' → E (.ref e) ⟨h', gs, dr, tk', os⟩)
    (g0 : KBw.bInts b = [] := by assumption) (g1 : IsStream fs lst R news := by assumption)
    (B : Below A₀ base outer h₀ := by k_asm) (hA : A.frames = some (envX cn cs L a ccd cl :: outer) := by exact rfl) (hh : A.handled = none := by exact rfl) (F : Fr h₀ L hp m := by k_asm) (X : (Mine.K w.params).In h₀ := by k_asm) (T : Top p loose mean mg mb h₀ := by k_asm) (hk : cs.kind = .function := by first | exact rfl | assumption) (hd : A.depth + 5 < recursionLimit := by ktr_room) (hu : A.units + 60 < cLine := by ktr_units) :
    wpAny (model prog w) A (call (.ref 51) [.ref fs]) Q E ⟨hp, gs, dr, tk9, os⟩ := by
  refine ClaimN.useA (c_uint1e trivial _ _ _ _ _ _ _ _ _ _ _ _ _ _ g0 g1) hA hh B F X N T hk hd hu ?_
  rintro e g n h' tk' ⟨b2, t2, n2, rfl⟩ F' R' U'
  exact ret e g b2 t2 n2 h' tk' F' R' U'
theorem dec_args (a b : Value) : argsOk "bytes.decode" ⟨[a, b], []⟩ := by
  unfold argsOk; rw [signature?_of (id := "bytes.decode") (n := ['e', 'd', 'o', 'c', 'e', 'd']) (o := ['s', 'e', 't', 'y', 'b']) (by kernel_rfl) FB.owner_bytes]; kernel_rfl
open Builtin in
theorem dec_road {b : Array UInt8} {id : String} : _codecs.decodeRoad id b (PySem.Str.ofString "latin-1") none [] = (_codecs.runDecoder id _codecs.latin1Decoder none true b 0 [] >>= fun r => mkStr ⟨r.1⟩) := by kernel_rfl
theorem dec_entry (c : UInt8) (cs : List UInt8) (t te : Tok) : Builtin.«bytes.decode» ⟨[.bytes (c :: cs).toArray t, .str (PySem.Str.ofString "latin-1") te], []⟩ = (mkStr (PySem.Str.ofString "utf-8") >>= fun _ => mkStr (PySem.Str.ofString "latin-1") >>= fun e => mkStr (PySem.Str.ofString "bytes.decode") >>= fun d =>
    call (.builtin "_codecs.decode.text") [.bytes (c :: cs).toArray t, e, .none, d] >>= fun v => ret v) := by kernel_rfl
theorem dec_entry0 (t te : Tok) : Builtin.«bytes.decode» ⟨[.bytes #[] t, .str (PySem.Str.ofString "latin-1") te], []⟩ = (rule "bytes.decode.empty" >>= fun _ => retStr Str.empty) := by kernel_rfl
theorem latin_loop {σ : Type} (b : Array UInt8) (st : σ) (f : Nat → Nat × Array Nat × σ → Sem (ForInStep (Nat × Array Nat × σ)))
    (hf : ∀ x p out, out.size ≤ b.size → p < b.size → f x (p, out, st) = pure (.yield (p + 1, out ++ [(b.getD p 0).toNat].toArray, st))) :
    ∀ k i out, i + k = b.size → out.toList = (b.toList.take i).map (·.toNat) → forIn (List.range' i k 1) (i, out, st) f = pure (b.size, b.map (·.toNat), st) := by
  intro k
  induction k with
  | zero =>
    intro i out hi ho
    have e : out = b.map (·.toNat) := by
      apply Array.toList_inj.mp
      rw [ho, Array.toList_map, List.take_of_length_le (by rw [Array.length_toList]; omega)]
    subst e
    have : i = b.size := by omega
    subst this
    rfl
  | succ k ih =>
    intro i out hi ho
    have hlt : i < b.size := by omega
    have hsz : out.size ≤ b.size := by
      rw [← Array.length_toList, ho, List.length_map, List.length_take, Array.length_toList]
      omega
    rw [List.range'_succ, List.forIn_cons, hf _ _ _ hsz hlt]
    show (pure _ >>= fun r => _) = _
    rw [pure_bind]
    refine ih (i + 1) _ (by omega) ?_
    rw [Array.toList_append, ho, List.take_add_one, List.map_append]
    congr 1
    have : b.toList[i]? = some b[i] := by simp [hlt]
    rw [this]
    simp [Array.getD, hlt]
open Builtin in
theorem run_latin (id : String) (b : Array UInt8) (hb : b.size ≤ sizeLine) : ∃ n, _codecs.runDecoder id _codecs.latin1Decoder none true b 0 [] = pure (b.map (·.toNat), n) := by
  unfold _codecs.runDecoder
  dsimp only
  rw [KPc.range_list]
  rw [latin_loop b _ _ (fun x p out h1 h2 => ?_) b.size 0 #[] (by omega) (by simp)]
  · exact ⟨b.size, rfl⟩
  · dsimp only
    rw [if_neg (by omega), if_neg (by omega)]
    rfl
open Builtin in
theorem meets_text_l {b : Array UInt8} {t t1 t2 : Tok} {d : PySem.Str} :
    Meets («_codecs.decode.text» ⟨[.bytes b t, .str (PySem.Str.ofString "latin-1") t1, .none, .str d t2], []⟩) (fun _ R s => b.size ≤ sizeLine ∧ R (.ok (.ret (.str ⟨b.map (·.toNat)⟩ s.toks))) { s with toks := s.toks + 1 }) := by
  refine .of_wp fun prog w A R s hS => ?_
  obtain ⟨hsz, h⟩ := hS
  show wpAny _ _ (Bytes.bytesLike _ (.bytes b t) >>= fun r => _) _ _ s
  refine wpAny_bind (wpAny_of_eq KBd.like_eq ?_)
  refine wpAny_bind (wpAny_of_eq KBd.held_eq ?_)
  show wpAny _ _ (_codecs.decodeRoad _ b (PySem.Str.ofString "latin-1") none [] >>= fun v => _) _ _ s
  obtain ⟨n, e⟩ := run_latin (d.toString) b hsz
  rw [dec_road, e]
  refine wpAny_bind (wpAny_bind (wpAny_pure ?_))
  exact wpAny_mkStr (wpAny_pure ⟨_, rfl, h⟩) (by show (b.map (·.toNat)).size ≤ _; rw [Array.size_map]; exact hsz)
theorem meets_decode_l {b : Array UInt8} {t te : Tok} :
    Meets (Builtin.«bytes.decode» ⟨[.bytes b t, .str (PySem.Str.ofString "latin-1") te], []⟩) (fun _ R s => b.size ≤ sizeLine ∧ ∀ t' k, R (.ok (.ret (.str ⟨b.map (·.toNat)⟩ t'))) { s with toks := k }) := by
  refine .of_wp fun prog w A R s hS => ?_
  obtain ⟨hsz, h⟩ := hS
  obtain ⟨l⟩ := b
  cases l with
  | nil =>
    rw [dec_entry0]
    refine wpAny_bind (wpAny_rule ?_)
    unfold retStr
    refine wpAny_bind (wpAny_mkStr ?_ (by decide))
    have h' := h s.toks (s.toks + 1)
    rw [show (Array.map (fun x : UInt8 => x.toNat) (⟨[]⟩ : Array UInt8)) = #[] from by simp] at h'
    exact wpAny_pure ⟨_, rfl, h'⟩
  | cons c cs =>
    rw [dec_entry]
    refine wpAny_bind (wpAny_mkStr ?_ (by decide))
    refine wpAny_bind (wpAny_mkStr ?_ (by decide))
    refine wpAny_bind (wpAny_mkStr ?_ (by decide))
    exact wpAny_bind (call_function_meets KBd.kind_text KBd.plain_text KBd.entry_text (KBd.args_text _ _ _ _) meets_text_l ⟨hsz, wpAny_pure ⟨_, rfl, h _ _⟩⟩)
noncomputable def textOf (ks : List Int) : Str := ⟨(ks.map Int.toNat).toArray⟩
theorem textOf_eq {b : Array UInt8} {ks : List Int} (hb : KBw.bInts b = ks) : (⟨b.map (·.toNat)⟩ : Str) = textOf ks := by
  subst hb
  obtain ⟨l⟩ := b
  unfold textOf KBw.bInts
  simp [Function.comp_def]
theorem decode_l {prog : Program} {w : World} {A : Around} {E : Value → Shared → Prop} {s : Shared} {b : Array UInt8} {ks : List Int} {t te : Tok} {Q : Value → Shared → Prop} (hb : KBw.bInts b = ks) (hsz : ks.length ≤ 16777216) (h : ∀ t' k, Q (.str (textOf ks) t') { s with toks := k }) :
    wpAny (model prog w) A (call (.builtin "bytes.decode") [.bytes b t, .str (PySem.Str.ofString "latin-1") te]) Q E s :=
  call_meets FB.slot_bytes_decode (typeIs_bytes _ _ _) FB.entry_bytes_decode (dec_args _ _) meets_decode_l ⟨by rw [sizeLine_eq, ← KBw.ints_length, hb]; exact hsz, by rw [textOf_eq hb]; exact h⟩
end
section
local macro_rules | `(tactic| walk_at "call ref") => `(tactic| ktr_call 51 use_c_uint1)
local macro_rules | `(tactic| walk_at "call builtin:bytes.decode") => `(tactic| (refine decode_l (by with_reducible assumption) (by assumption) ?_; intros))
section
local macro_rules | `(tactic| walk_at "pad") => `(tactic| skip)
theorem c_str1 : Wants PySem.Challenge.rw_in0077_01 Mine.K → ∀ (prog : Program) (w : World) (p : Program) (loose : List Str) (mean : ExcName → Option Value) (mg mb : Str → Option Value) (news R : List (Addr × Obj)) (b : Array UInt8) (t : Tok) (k : Int) (ks : List Int) (n0 : Nat) (lst fs : Addr),
  KBw.bInts b = k :: ks → (k :: ks).length ≤ 400 → 0 ≤ k → k.toNat ≤ ks.length → IsStream fs lst R news →
  Claim prog w (Mine.K w.params) p loose mean mg mb ((lst, listOf #[.bytes b t] n0) :: R) 8 90 (call (.ref 58) [.ref fs])
    (fun v news' => ∃ tv b2 t2 n', v = .str (textOf (ks.take k.toNat)) tv ∧ KBw.bInts b2 = ks.drop k.toNat ∧ news' = (lst, listOf #[.bytes b2 t2] n') :: R) := by
  k_fill
  intro _ prog w p loose mean mg mb news R b t k ks n0 lst fs hb hks hk0 hkk hS
  refine hS.open ?_
  clear hS
  intro D oD fr oR cel oC c1 oc1 c2 fd sl hS0 hne hrd hR hC hc1 dp un gd cn cs a ccd cl outer A₀ base h₀ L m s Q E B F X N T hk hd hu hret
  have hks' : ks.length ≤ 400 := by rw [List.length_cons] at hks; omega
  have hz : k = ((k.toNat : Nat) : Int) := (Int.toNat_of_nonneg hk0).symm
  have hn : k.toNat ≤ 400 := by omega
  have htk : (ks.take k.toNat).length ≤ 16777216 := by rw [List.length_take]; omega
  have hmin : min k.toNat ks.length = k.toNat := Nat.min_eq_left hkk
  have hcmp : decide (((min k.toNat ks.length : Nat) : Int) = k) = true := decide_eq_true (by rw [hmin]; exact hz.symm)
  have hcmp2 : ((((min k.toNat ks.length : Nat) : Int)) == k) = true := by rw [hmin, ← hz]; exact beq_self_eq_true k
  have hge : decide (k ≥ 0) = true := decide_eq_true hk0
  have hge2 : decide (0 ≤ k) = true := decide_eq_true hk0
  walk_at "ENTER"
  k_steps
  rename News h₀ _ _ _ => N9
  refine hret _ _ _ _ ⟨_, _, _, _, rfl, ?_, rfl⟩ (by k_asm) N9
  assumption
end
end
section
local macro_rules | `(tactic| walk_at "leaving ref") => `(tactic| (k_dflt (refine lvOn ?_); k_whole; intros))
local macro_rules | `(tactic| walk_at "leaving ref") => `(tactic| (k_dflt (refine lvNew ?_); k_whole; intros))
section
local macro_rules | `(tactic| walk_at "call ref") => `(tactic| ktr_call 51 use_c_uint1e)
section
local macro_rules | `(tactic| walk_at "pad") => `(tactic| skip)
theorem c_str1e0 : Wants PySem.Challenge.rw_in0077_01 Mine.K → ∀ (prog : Program) (w : World) (p : Program) (loose : List Str) (mean : ExcName → Option Value) (mg mb : Str → Option Value) (news R : List (Addr × Obj)) (b : Array UInt8) (t : Tok) (n0 : Nat) (lst fs : Addr),
  KBw.bInts b = [] → IsStream fs lst R news →
  ClaimN prog w (Mine.K w.params) p loose mean mg mb ((lst, listOf #[.bytes b t] n0) :: R) 8 90 (call (.ref 58) [.ref fs]) "ValueError"
    (fun news' => ∃ b2 t2 n', news' = (lst, listOf #[.bytes b2 t2] n') :: R) := by
  k_fill
  intro _ prog w p loose mean mg mb news R b t n0 lst fs hb hS dp un gd cn cs a ccd cl outer A₀ base h₀ L m s Q E B F X N T hk hd hu hret
  walk_at "ENTER"
  k_steps
  all_goals (refine' hret _ _ _ _ _ ?oE ?fE ?rE ?uE; (case rE => assumption); (case uE => assumption); (case fE => assumption); (case oE => exact ⟨_, _, _, rfl⟩))
end
end
end
section
local macro_rules | `(tactic| walk_at "call ref") => `(tactic| ktr_call 51 use_c_uint1)
local macro_rules | `(tactic| walk_at "call builtin:bytes.decode") => `(tactic| (refine decode_l (by with_reducible assumption) (by assumption) ?_; intros))
section
local macro_rules | `(tactic| walk_at "leaving ref") => `(tactic| (k_dflt (refine lvOn ?_); k_whole; intros))
local macro_rules | `(tactic| walk_at "leaving ref") => `(tactic| (k_dflt (refine lvNew ?_); k_whole; intros))
section
theorem RaisedSN.tl {base G : Heap} {l : List Env} {e : Addr} {cls : Value} {q : Addr × Obj} {news : List (Addr × Obj)} {h : Heap} (R : RaisedSN base G l e cls (q :: news) h) : RaisedSN base G l e cls news h := by
  obtain ⟨B, a0, hB, hBG, hl, hfl⟩ := R
  exact ⟨B, a0, hB, hBG, fun q hq => hl q (.tail _ hq), hfl⟩
structure Box (P : Prop) : Prop where
  out : P
section
variable {prog : Program} {w : World} {A : Around} {E : Value → Shared → Prop} {s : Shared}
theorem after_intB {l r : List Nat} {p : List Value} {f : Nat → List Value × Builtin.Str.Writer × List Nat → Sem (ForInStep (List Value × Builtin.Str.Writer × List Nat))} {Q : List Value × Builtin.Str.Writer × List Nat → Shared → Prop} {x : Builtin.Str.Writer} {T : Str} {N : Nat} {o : Option Value} {c : Builtin.Str.Percent} {n : Int} {d : List Nat}
    (h : ∀ w', KPc.Good w' (T ++ Str.ofString (toString n)) (N + 10) → wpAny (model prog w) A (forIn l (p, w', r) f) Q E s) (g : KPc.Good x T N := by assumption) (hn : 0 ≤ n := by kpt_fact) (hm : n < 10 ^ 10 := by kpt_fact) (h1 : c.alt = false := by rfl) (h2 : c.type = 100 := by rfl) (h3 : c.prec = none := by rfl)
    (hd : d = (Str.ofString (toString ((n.natAbs : Nat) : Int))).cps.toList := by rfl) (ho : o = none := by kpc_none) :
    Box (wpAny (model prog w) A (forIn l (p, x.add ⟨(Builtin.Str.percentInt c (decide (n < 0)) d).toArray⟩ o, r) f) Q E s) := ⟨KPc.after_int g h1 (.inl h2) h3 hn hm hd ho h⟩
theorem repr_int {α : Type} {n : Int} {f : Option Str → Sem α} {Q : α → Shared → Prop} (hn : n.natAbs.log2 < 1920) (h : ∀ k, wpAny (model prog w) A (f (some (Str.ofString (toString ((n.natAbs : Nat) : Int))))) Q E { s with toks := k }) :
    wpAny (model prog w) A (mkInt ((n.natAbs : Nat) : Int) >>= fun a => call (.builtin "int.__repr__") [a] >>= fun b => asStr? b >>= f) Q E s :=
  wpAny_bind (wpAny_mkInt (wpAny_bind (call_gives F.slot_int_repr (typeIs_int _ _ _) F.entry_int_repr (F.args_int_repr_1 _) (gives_int_repr _ _ (KPt.hd2 hn)) ⟨int_text_fits (KPt.hd2 hn), wpAny_bind (wpAny_of_eq (a := some _) rfl (h _))⟩)))
end
local macro_rules | `(tactic| kpt_piece) => `(tactic| ((with_reducible refine Box.out ?_); (refine after_intB ?_); intro _ _))
local macro_rules | `(tactic| kpt_conv) => `(tactic| (refine wpAny_bind (wpAny_of_eq (a := _) rfl ?_); (repeat kpc_if); (with_reducible refine repr_int (by kpt_hd) ?_); intro _))
theorem c_str1e1 : Wants PySem.Challenge.rw_in0077_01 Mine.K → ∀ (prog : Program) (w : World) (p : Program) (loose : List Str) (mean : ExcName → Option Value) (mg mb : Str → Option Value) (news R : List (Addr × Obj)) (b : Array UInt8) (t : Tok) (k : Int) (ks : List Int) (n0 : Nat) (lst fs : Addr),
  KBw.bInts b = k :: ks → (k :: ks).length ≤ 400 → 0 ≤ k → k < 256 → ks.length < k.toNat → IsStream fs lst R news →
  ClaimN prog w (Mine.K w.params) p loose mean mg mb ((lst, listOf #[.bytes b t] n0) :: R) 8 90 (call (.ref 58) [.ref fs]) "ValueError"
    (fun news' => ∃ b2 t2 n', news' = (lst, listOf #[.bytes b2 t2] n') :: R) := by
  k_fill
  intro _ prog w p loose mean mg mb news R b t k ks n0 lst fs hb hks hk0 hk256 hkk hS
  refine hS.open ?_
  clear hS
  intro D oD fr oR cel oC c1 oc1 c2 fd sl hS0 hne hrd hR hC hc1 dp un gd cn cs a ccd cl outer A₀ base h₀ L m s Q E B F X N T hk hd hu hret
  have hks' : ks.length ≤ 400 := by rw [List.length_cons] at hks; omega
  have hz : k = ((k.toNat : Nat) : Int) := (Int.toNat_of_nonneg hk0).symm
  have hn : k.toNat ≤ 400 := by omega
  have hcmp : decide (((min k.toNat ks.length : Nat) : Int) = k) = false := decide_eq_false (by omega)
  have hcmp2 : ((((min k.toNat ks.length : Nat) : Int)) == k) = false := beq_false_of_ne (by omega)
  have hge : decide (k ≥ 0) = true := decide_eq_true hk0
  have hge2 : decide (0 ≤ k) = true := decide_eq_true hk0
  walk_at "ENTER"
  k_steps
  rename RaisedSN _ _ _ _ _ _ _ => R9
  refine hret _ _ _ _ _ ⟨_, _, _, rfl⟩ (by assumption) (RaisedSN.tl R9) (by assumption)
end
theorem Claim.perm {prog : Program} {w : World} {K : Frag} {p : Program} {loose : List Str} {mean : ExcName → Option Value} {mg mb : Str → Option Value} {n1 n2 : List (Addr × Obj)} {dd uu : Nat} {cal : Sem Value} {O1 O2 : Value → List (Addr × Obj) → Prop}
    (C : Claim prog w K p loose mean mg mb n1 dd uu cal O1) (h1 : ∀ q ∈ n1, q ∈ n2) (h2 : ∀ v n1', O1 v n1' → ∃ n2', O2 v n2' ∧ ∀ q ∈ n2', q ∈ n1') : Claim prog w K p loose mean mg mb n2 dd uu cal O2 :=
  fun dp un gd cn cs a ccd cl outer A₀ base h₀ L m s Q E B F X N T hk hd hu hret =>
    C dp un gd cn cs a ccd cl outer A₀ base h₀ L m s Q E B F X (fun q hq => N q (h1 q hq)) T hk hd hu fun v n1' h' tk' o F' N' => by
      obtain ⟨n2', o2, hs⟩ := h2 v n1' o
      exact hret v n2' h' tk' o2 F' fun q hq => N' q (hs q hq)
theorem RaisedSN.sub {base G : Heap} {l : List Env} {e : Addr} {cls : Value} {n1 n2 : List (Addr × Obj)} {h : Heap} (R : RaisedSN base G l e cls n1 h) (hs : ∀ q ∈ n2, q ∈ n1) : RaisedSN base G l e cls n2 h := by
  obtain ⟨B, a0, hB, hBG, hl, hfl⟩ := R
  exact ⟨B, a0, hB, hBG, fun q hq => hl q (hs q hq), hfl⟩
theorem ClaimN.perm {prog : Program} {w : World} {K : Frag} {p : Program} {loose : List Str} {mean : ExcName → Option Value} {mg mb : Str → Option Value} {n1 n2 : List (Addr × Obj)} {dd uu : Nat} {cal : Sem Value} {X : String} {O1 O2 : List (Addr × Obj) → Prop}
    (C : ClaimN prog w K p loose mean mg mb n1 dd uu cal X O1) (h1 : ∀ q ∈ n1, q ∈ n2) (h2 : ∀ n1', O1 n1' → ∃ n2', O2 n2' ∧ ∀ q ∈ n2', q ∈ n1') : ClaimN prog w K p loose mean mg mb n2 dd uu cal X O2 :=
  fun dp un gd cn cs a ccd cl outer A₀ base h₀ L m s Q E B F X N T hk hd hu hret =>
    C dp un gd cn cs a ccd cl outer A₀ base h₀ L m s Q E B F X (fun q hq => N q (h1 q hq)) T hk hd hu fun e g n1' h' tk' o F' R' U' => by
      obtain ⟨n2', o2, hs⟩ := h2 n1' o
      exact hret e g n2' h' tk' o2 F' (RaisedSN.sub R' hs) U'
noncomputable def TabS (tb : List (Addr × Obj)) : Prop := tb = [(797, tabObj #[])] ∨ ∃ c1 c2 oc1, tb = [(797, tab9 c1 c2), (c1, oc1)] ∧ CodeOk oc1 bReadQ
noncomputable def StreamP (fs lst : Addr) (pre : List (Addr × Obj)) : Prop := ∀ news : List (Addr × Obj), (∀ q ∈ news, @Ne Nat q.1 lst) → IsStream fs lst (pre ++ news) news
noncomputable def TabFrom (tb tb' news : List (Addr × Obj)) : Prop := ∀ q ∈ tb', (∃ o, (q.1, o) ∈ tb) ∨ ∀ z ∈ news, @Ne Nat z.1 q.1
theorem IsStreamAt.pre {fs lst c1 c2 : Addr} {oc1 : Obj} {R news tb : List (Addr × Obj)} (h : IsStreamAt c1 c2 oc1 fs lst R news) (hf : TabFrom tb [(797, tab9 c1 c2), (c1, oc1)] news) : ∃ pre, R = pre ++ news ∧ StreamP fs lst pre ∧ (∀ q ∈ pre ++ news, @Ne Nat q.1 lst) ∧ ∃ tb', TabS tb' ∧ (∀ q ∈ tb', q ∈ pre) ∧ TabFrom tb tb' news := by
  obtain ⟨D, oD, oS, fr, oR, cel, oC, rfl, hne, hrd, hS, hR, hC, hc1⟩ := h
  refine ⟨[(D, oD), (fs, oS), (fr, oR), (cel, oC), (797, tab9 c1 c2), (c1, oc1)], rfl, fun news' hn => ?_, hne, [(797, tab9 c1 c2), (c1, oc1)], .inr ⟨c1, c2, oc1, rfl, hc1⟩, fun q hq => ?_, hf⟩
  · refine ⟨D, oD, oS, fr, oR, cel, oC, c1, oc1, c2, rfl, fun q hq => ?_, hrd, hS, hR, hC, hc1⟩
    rcases List.mem_append.mp hq with h | h
    · exact hne q (List.mem_append_left news h)
    · exact hn q h
  · revert q hq; walk_at "SUBM"
theorem c_stream (hW : Wants PySem.Challenge.rw_in0077_01 Mine.K) (prog : Program) (w : World) (p : Program) (loose : List Str) (mean : ExcName → Option Value) (mg mb : Str → Option Value) (tb news : List (Addr × Obj)) (b : Array UInt8) (t : Tok) (hT : TabS tb) (h797 : ∀ q ∈ news, @Ne Nat q.1 797) :
  Claim prog w (Mine.K w.params) p loose mean mg mb (tb ++ news) 3 40 (call (.ref 802) [.bytes b t]) (fun v news' => ∃ fs lst n pre, v = .ref fs ∧ news' = (lst, listOf #[.bytes b t] n) :: (pre ++ news) ∧ StreamP fs lst pre ∧ (∀ q ∈ pre ++ news, @Ne Nat q.1 lst) ∧ ∃ tb', TabS tb' ∧ (∀ q ∈ tb', q ∈ pre) ∧ TabFrom tb tb' news) := by
  have key : ∀ {c1 c2 : Addr} {oc1 : Obj} {v : Value} {news' : List (Addr × Obj)}, TabFrom tb [(797, tab9 c1 c2), (c1, oc1)] news → (∃ fs lst n R, v = .ref fs ∧ news' = (lst, listOf #[.bytes b t] n) :: R ∧ IsStreamAt c1 c2 oc1 fs lst R news) → ∃ n2', (∃ fs lst n pre, v = .ref fs ∧ n2' = (lst, listOf #[.bytes b t] n) :: (pre ++ news) ∧ StreamP fs lst pre ∧ (∀ q ∈ pre ++ news, @Ne Nat q.1 lst) ∧ ∃ tb', TabS tb' ∧ (∀ q ∈ tb', q ∈ pre) ∧ TabFrom tb tb' news) ∧ ∀ q ∈ n2', q ∈ news' := by
    rintro c1 c2 oc1 v news' hf ⟨fs, lst, n, R, rfl, rfl, hS⟩
    obtain ⟨pre, rfl, h1, h2, h3⟩ := hS.pre hf
    exact ⟨_, ⟨fs, lst, n, pre, rfl, rfl, h1, h2, h3⟩, fun q hq => hq⟩
  rcases hT with rfl | ⟨c1, c2, oc1, rfl, hc⟩
  · exact Claim.perm (c_stream0 hW prog w p loose mean mg mb news b t h797) (fun q hq => hq) fun v n1' ⟨c1, c2, oc1, hn, o⟩ => key (fun q hq => by
      simp only [List.mem_cons, List.not_mem_nil, or_false] at hq
      rcases hq with rfl | rfl
      · exact .inl ⟨_, .head _⟩
      · exact .inr hn) o
  · exact Claim.perm (c_stream1 hW prog w p loose mean mg mb news b t c1 c2 oc1 hc) (fun q hq => hq) fun v n1' o => key (fun q hq => .inl ⟨q.2, hq⟩) o
theorem in_turn {a b : Addr × Obj} {pre news : List (Addr × Obj)} : ∀ q, q ∈ b :: (pre ++ a :: news) ↔ q ∈ a :: b :: (pre ++ news) := fun q => by
  simp only [List.mem_cons, List.mem_append]
  constructor
  · rintro (h | h | h | h) <;> simp [h]
  · rintro (h | h | h | h) <;> simp [h]
section
variable (hW : Wants PySem.Challenge.rw_in0077_01 Mine.K) (prog : Program) (w : World) (p : Program) (loose : List Str) (mean : ExcName → Option Value) (mg mb : Str → Option Value) (news pre : List (Addr × Obj)) (W : Addr) (o : Obj) (b : Array UInt8) (t : Tok) (k : Int) (ks : List Int) (n0 : Nat) (lst fs : Addr)
include hW
theorem c_uint1W (hb : KBw.bInts b = k :: ks) (hks : (k :: ks).length ≤ 400) (hS : StreamP fs lst pre) (hne : ∀ q ∈ (W, o) :: news, @Ne Nat q.1 lst) :
  Claim prog w (Mine.K w.params) p loose mean mg mb ((W, o) :: (lst, listOf #[.bytes b t] n0) :: (pre ++ news)) 5 60 (call (.ref 51) [.ref fs])
    (fun v news' => ∃ tv b2 t2 n', v = .int k tv ∧ KBw.bInts b2 = ks ∧ news' = (W, o) :: (lst, listOf #[.bytes b2 t2] n') :: (pre ++ news)) :=
  Claim.perm (c_uint1 hW prog w p loose mean mg mb _ _ b t k ks n0 lst fs hb hks (hS _ hne)) (fun q hq => (in_turn q).mp hq)
    fun v n1' ⟨tv, b2, t2, n', e1, e2, e3⟩ => ⟨_, ⟨tv, b2, t2, n', e1, e2, rfl⟩, fun q hq => by rw [e3]; exact (in_turn q).mpr hq⟩
theorem c_uint1eW (hb : KBw.bInts b = []) (hS : StreamP fs lst pre) (hne : ∀ q ∈ (W, o) :: news, @Ne Nat q.1 lst) :
  ClaimN prog w (Mine.K w.params) p loose mean mg mb ((W, o) :: (lst, listOf #[.bytes b t] n0) :: (pre ++ news)) 5 60 (call (.ref 51) [.ref fs]) "ValueError"
    (fun news' => ∃ b2 t2 n', news' = (W, o) :: (lst, listOf #[.bytes b2 t2] n') :: (pre ++ news)) :=
  ClaimN.perm (c_uint1e hW prog w p loose mean mg mb _ _ b t n0 lst fs hb (hS _ hne)) (fun q hq => (in_turn q).mp hq)
    fun n1' ⟨b2, t2, n', e3⟩ => ⟨_, ⟨b2, t2, n', rfl⟩, fun q hq => by rw [e3]; exact (in_turn q).mpr hq⟩
theorem c_str1W (hb : KBw.bInts b = k :: ks) (hks : (k :: ks).length ≤ 400) (h0 : 0 ≤ k) (hkk : k.toNat ≤ ks.length) (hS : StreamP fs lst pre) (hne : ∀ q ∈ (W, o) :: news, @Ne Nat q.1 lst) :
  Claim prog w (Mine.K w.params) p loose mean mg mb ((W, o) :: (lst, listOf #[.bytes b t] n0) :: (pre ++ news)) 8 90 (call (.ref 58) [.ref fs])
    (fun v news' => ∃ tv b2 t2 n', v = .str (textOf (ks.take k.toNat)) tv ∧ KBw.bInts b2 = ks.drop k.toNat ∧ news' = (W, o) :: (lst, listOf #[.bytes b2 t2] n') :: (pre ++ news)) :=
  Claim.perm (c_str1 hW prog w p loose mean mg mb _ _ b t k ks n0 lst fs hb hks h0 hkk (hS _ hne)) (fun q hq => (in_turn q).mp hq)
    fun v n1' ⟨tv, b2, t2, n', e1, e2, e3⟩ => ⟨_, ⟨tv, b2, t2, n', e1, e2, rfl⟩, fun q hq => by rw [e3]; exact (in_turn q).mpr hq⟩
theorem c_str1eW (hb : KBw.bInts b = ks) (hks : ks.length ≤ 400) (hin : ∀ k ∈ ks, 0 ≤ k ∧ k < 256) (hkk : ∀ k r, ks = k :: r → r.length < k.toNat) (hS : StreamP fs lst pre) (hne : ∀ q ∈ (W, o) :: news, @Ne Nat q.1 lst) :
  ClaimN prog w (Mine.K w.params) p loose mean mg mb ((W, o) :: (lst, listOf #[.bytes b t] n0) :: (pre ++ news)) 8 90 (call (.ref 58) [.ref fs]) "ValueError"
    (fun news' => ∃ b2 t2 n', news' = (W, o) :: (lst, listOf #[.bytes b2 t2] n') :: (pre ++ news)) := by
  have key : ∀ n1', (∃ b2 t2 n', n1' = (lst, listOf #[.bytes b2 t2] n') :: (pre ++ (W, o) :: news)) → ∃ n2', (∃ b2 t2 n', n2' = (W, o) :: (lst, listOf #[.bytes b2 t2] n') :: (pre ++ news)) ∧ ∀ q ∈ n2', q ∈ n1' :=
    fun n1' ⟨b2, t2, n', e3⟩ => ⟨_, ⟨b2, t2, n', rfl⟩, fun q hq => by rw [e3]; exact (in_turn q).mpr hq⟩
  cases ks with
  | nil => exact ClaimN.perm (c_str1e0 hW prog w p loose mean mg mb _ _ b t n0 lst fs hb (hS _ hne)) (fun q hq => (in_turn q).mp hq) key
  | cons k r => exact ClaimN.perm (c_str1e1 hW prog w p loose mean mg mb _ _ b t k r n0 lst fs hb hks (hin k (.head _)).1 (hin k (.head _)).2 (hkk k r rfl) (hS _ hne)) (fun q hq => (in_turn q).mp hq) key
end
theorem allLt_get {d : Addr} : ∀ {l : List (Addr × Obj)}, AllLt d l → ∀ p ∈ l, @LT.lt Nat _ p.1 d := by
  intro l
  induction l with
  | nil => intro _ p hp; cases hp
  | cons a r ih =>
    intro h p hp
    rcases List.mem_cons.mp hp with rfl | hp
    · exact h.1
    · exact ih h.2 p hp
theorem TabS.has {tb : List (Addr × Obj)} (h : TabS tb) : ∃ o, (797, o) ∈ tb := by
  rcases h with rfl | ⟨c1, c2, oc1, rfl, _⟩
  · exact ⟨_, .head _⟩
  · exact ⟨_, .head _⟩
theorem tab_lt {W : Addr} {X : Prop} {tb pre news : List (Addr × Obj)} (hT : TabS tb) (hz : ∀ q ∈ tb, q ∈ pre) (ha : X ∧ AllLt W (pre ++ news)) : @LT.lt Nat _ 797 W := by
  obtain ⟨o, ho⟩ := hT.has
  exact allLt_get ha.2 _ (List.mem_append_left _ (hz _ ho))
theorem back_mem {tb pre news : List (Addr × Obj)} {a b c : Addr × Obj} (hz : ∀ q ∈ tb, q ∈ pre) : ∀ q ∈ tb ++ a :: b :: news, q ∈ a :: b :: c :: (pre ++ news) := fun q hq => by
  simp only [List.mem_append, List.mem_cons] at hq ⊢
  rcases hq with h | h | h | h
  · simp [hz q h]
  · simp [h]
  · simp [h]
  · simp [h]
noncomputable def readN : Nat → List Int → List Str × Bool
  | 0, _ => ([], false)
  | _ + 1, [] => ([], true)
  | n + 1, k :: r => if k.toNat ≤ r.length then (textOf (r.take k.toNat) :: (readN n (r.drop k.toNat)).1, (readN n (r.drop k.toNat)).2) else ([], true)
noncomputable def readF : List Int → List Str × Bool
  | [] => ([], true)
  | k :: r => readN k.toNat r
noncomputable abbrev tupOf (vs : Array Value) : Obj := { cls := .type "tuple", data := .seq vs }
inductive ReadOut (tb : List (Addr × Obj)) (ks : List Int) (news : List (Addr × Obj)) (v : Value) (news' : List (Addr × Obj)) : Prop
  | mk (T : Addr) (W : Addr) (n : Nat) (vs : List Value) (tb' : List (Addr × Obj)) (f0 : v = .ref T) (f1 : TextsAre vs (readF ks).1) (f2 : TabS tb') (f3 : @Ne Nat T 797) (f4 : @Ne Nat W 797) (f5 : (∀ q ∈ news, @LT.lt Nat _ q.1 W ∧ @LT.lt Nat _ q.1 T)) (f6 : TabFrom tb tb' news) (f7 : news' = tb' ++ (T, tupOf #[.ref W, .bool (readF ks).2]) :: (W, listOf vs.toArray n) :: news)
@[elab_as_elim] theorem ReadOut.open {tb news news' : List (Addr × Obj)} {ks : List Int} {v : Value} {P : Value → List (Addr × Obj) → Prop} (h : ReadOut tb ks news v news')
    (k : ∀ T W n vs tb', TextsAre vs (readF ks).1 → TabS tb' → @Ne Nat T 797 → @Ne Nat W 797 → (∀ q ∈ news, @LT.lt Nat _ q.1 W ∧ @LT.lt Nat _ q.1 T) → TabFrom tb tb' news → P (.ref T) (tb' ++ (T, tupOf #[.ref W, .bool (readF ks).2]) :: (W, listOf vs.toArray n) :: news)) : P v news' := by
  obtain ⟨T, W, n, vs, tb', rfl, h1, h2, h3, h4, h5, h6, rfl⟩ := h
  exact k T W n vs tb' h1 h2 h3 h4 h5 h6
theorem use_uint1W {prog : Program} {w : World} {p : Program} {loose : List Str} {mean : ExcName → Option Value} {mg mb : Str → Option Value} {news pre : List (Addr × Obj)} {W : Addr} {o : Obj} {b : Array UInt8} {t : Tok} {k : Int} {ks : List Int} {n0 : Nat} {lst fs : Addr} {A : Around} {cn : Str} {cs : Scope} {a : Addr} {ccd : Value} {cl : List (Str × Addr)} {outer : List Env} {A₀ : Around} {base h₀ : Heap} {L : Addr} {m : Str → Option Value} {hp : Heap} {gs : Array GenState} {dr : Drawn} {tk9 : Nat} {os : OsState} {Q E : Value → Shared → Prop}
    (N : News h₀ L hp ((W, o) :: (lst, listOf #[.bytes b t] n0) :: (pre ++ news))) (ret : ∀ (tv : Tok) (b2 : Array UInt8) (t2 : Tok) (n2 : Nat) (h' : Heap) (tk' : Nat), KBw.bInts b2 = ks → Fr h₀ L h' m → News h₀ L h' ((W, o) :: (lst, listOf #[.bytes b2 t2] n2) :: (pre ++ news)) → Q (.int k tv) ⟨h', gs, dr, tk', os⟩)
    (hb : KBw.bInts b = k :: ks := by assumption) (hks : (k :: ks).length ≤ 400 := by assumption) (hS : StreamP fs lst pre := by assumption) (hne : ∀ q ∈ (W, o) :: news, @Ne Nat q.1 lst := by exact List.forall_mem_cons.mpr ⟨by k_ne, by assumption⟩) (B : Below A₀ base outer h₀ := by k_asm) (hA : A.frames = some (envX cn cs L a ccd cl :: outer) := by exact rfl) (hh : A.handled = none := by exact rfl) (F : Fr h₀ L hp m := by k_asm) (X : (Mine.K w.params).In h₀ := by k_asm) (T : Top p loose mean mg mb h₀ := by k_asm) (hk : cs.kind = .function := by first | exact rfl | assumption) (hd : A.depth + 5 < recursionLimit := by ktr_room) (hu : A.units + 60 < cLine := by ktr_units) :
    wpAny (model prog w) A (call (.ref 51) [.ref fs]) Q E ⟨hp, gs, dr, tk9, os⟩ := by
  refine Claim.useA (c_uint1W trivial prog w p loose mean mg mb news pre W o b t k ks n0 lst fs hb hks hS hne) hA hh B F X N T hk hd hu ?_
  rintro v n h' tk' ⟨tv, b2, t2, n2, rfl, q0, rfl⟩ F' N'
  exact ret tv b2 t2 n2 h' tk' q0 F' N'
theorem use_uint1eW {prog : Program} {w : World} {p : Program} {loose : List Str} {mean : ExcName → Option Value} {mg mb : Str → Option Value} {news pre : List (Addr × Obj)} {W : Addr} {o : Obj} {b : Array UInt8} {t : Tok} {n0 : Nat} {lst fs : Addr} {A : Around} {cn : Str} {cs : Scope} {a : Addr} {ccd : Value} {cl : List (Str × Addr)} {outer : List Env} {A₀ : Around} {base h₀ : Heap} {L : Addr} {m : Str → Option Value} {hp : Heap} {gs : Array GenState} {dr : Drawn} {tk9 : Nat} {os : OsState} {Q E : Value → Shared → Prop}
    (N : News h₀ L hp ((W, o) :: (lst, listOf #[.bytes b t] n0) :: (pre ++ news))) (ret : ∀ (e : Addr) (g : Heap) (b2 : Array UInt8) (t2 : Tok) (n2 : Nat) (h' : Heap) (tk' : Nat), Fr h₀ L g m → RaisedSN base g (envX cn cs L a ccd cl :: outer) e (.type "ValueError") ((W, o) :: (lst, listOf #[.bytes b2 t2] n2) :: (pre ++ news)) h' → g.UpToSlots h' → E (.ref e) ⟨h', gs, dr, tk', os⟩)
    (hb : KBw.bInts b = [] := by assumption) (hS : StreamP fs lst pre := by assumption) (hne : ∀ q ∈ (W, o) :: news, @Ne Nat q.1 lst := by exact List.forall_mem_cons.mpr ⟨by k_ne, by assumption⟩) (B : Below A₀ base outer h₀ := by k_asm) (hA : A.frames = some (envX cn cs L a ccd cl :: outer) := by exact rfl) (hh : A.handled = none := by exact rfl) (F : Fr h₀ L hp m := by k_asm) (X : (Mine.K w.params).In h₀ := by k_asm) (T : Top p loose mean mg mb h₀ := by k_asm) (hk : cs.kind = .function := by first | exact rfl | assumption) (hd : A.depth + 5 < recursionLimit := by ktr_room) (hu : A.units + 60 < cLine := by ktr_units) :
    wpAny (model prog w) A (call (.ref 51) [.ref fs]) Q E ⟨hp, gs, dr, tk9, os⟩ := by
  refine ClaimN.useA (c_uint1eW trivial prog w p loose mean mg mb news pre W o b t n0 lst fs hb hS hne) hA hh B F X N T hk hd hu ?_
  rintro e g n h' tk' ⟨b2, t2, n2, rfl⟩ F' R' U'
  exact ret e g b2 t2 n2 h' tk' F' R' U'
theorem use_str1W {prog : Program} {w : World} {p : Program} {loose : List Str} {mean : ExcName → Option Value} {mg mb : Str → Option Value} {news pre : List (Addr × Obj)} {W : Addr} {o : Obj} {b : Array UInt8} {t : Tok} {k : Int} {ks : List Int} {n0 : Nat} {lst fs : Addr} {A : Around} {cn : Str} {cs : Scope} {a : Addr} {ccd : Value} {cl : List (Str × Addr)} {outer : List Env} {A₀ : Around} {base h₀ : Heap} {L : Addr} {m : Str → Option Value} {hp : Heap} {gs : Array GenState} {dr : Drawn} {tk9 : Nat} {os : OsState} {Q E : Value → Shared → Prop}
    (N : News h₀ L hp ((W, o) :: (lst, listOf #[.bytes b t] n0) :: (pre ++ news))) (ret : ∀ (tv : Tok) (b2 : Array UInt8) (t2 : Tok) (n2 : Nat) (h' : Heap) (tk' : Nat), KBw.bInts b2 = ks.drop k.toNat → Fr h₀ L h' m → News h₀ L h' ((W, o) :: (lst, listOf #[.bytes b2 t2] n2) :: (pre ++ news)) → Q (.str (textOf (ks.take k.toNat)) tv) ⟨h', gs, dr, tk', os⟩)
    (hb : KBw.bInts b = k :: ks := by assumption) (hks : (k :: ks).length ≤ 400 := by assumption) (h0 : 0 ≤ k := by assumption) (hkk : k.toNat ≤ ks.length := by assumption) (hS : StreamP fs lst pre := by assumption) (hne : ∀ q ∈ (W, o) :: news, @Ne Nat q.1 lst := by assumption) (B : Below A₀ base outer h₀ := by k_asm) (hA : A.frames = some (envX cn cs L a ccd cl :: outer) := by exact rfl) (hh : A.handled = none := by exact rfl) (F : Fr h₀ L hp m := by k_asm) (X : (Mine.K w.params).In h₀ := by k_asm) (T : Top p loose mean mg mb h₀ := by k_asm) (hk : cs.kind = .function := by first | exact rfl | assumption) (hd : A.depth + 8 < recursionLimit := by ktr_room) (hu : A.units + 90 < cLine := by ktr_units) :
    wpAny (model prog w) A (call (.ref 58) [.ref fs]) Q E ⟨hp, gs, dr, tk9, os⟩ := by
  refine Claim.useA (c_str1W trivial prog w p loose mean mg mb news pre W o b t k ks n0 lst fs hb hks h0 hkk hS hne) hA hh B F X N T hk hd hu ?_
  rintro v n h' tk' ⟨tv, b2, t2, n2, rfl, q0, rfl⟩ F' N'
  exact ret tv b2 t2 n2 h' tk' q0 F' N'
theorem use_str1eW {prog : Program} {w : World} {p : Program} {loose : List Str} {mean : ExcName → Option Value} {mg mb : Str → Option Value} {news pre : List (Addr × Obj)} {W : Addr} {o : Obj} {b : Array UInt8} {t : Tok} {ks : List Int} {n0 : Nat} {lst fs : Addr} {A : Around} {cn : Str} {cs : Scope} {a : Addr} {ccd : Value} {cl : List (Str × Addr)} {outer : List Env} {A₀ : Around} {base h₀ : Heap} {L : Addr} {m : Str → Option Value} {hp : Heap} {gs : Array GenState} {dr : Drawn} {tk9 : Nat} {os : OsState} {Q E : Value → Shared → Prop}
    (N : News h₀ L hp ((W, o) :: (lst, listOf #[.bytes b t] n0) :: (pre ++ news))) (ret : ∀ (e : Addr) (g : Heap) (b2 : Array UInt8) (t2 : Tok) (n2 : Nat) (h' : Heap) (tk' : Nat), Fr h₀ L g m → RaisedSN base g (envX cn cs L a ccd cl :: outer) e (.type "ValueError") ((W, o) :: (lst, listOf #[.bytes b2 t2] n2) :: (pre ++ news)) h' → g.UpToSlots h' → E (.ref e) ⟨h', gs, dr, tk', os⟩)
    (hb : KBw.bInts b = ks := by assumption) (hks : ks.length ≤ 400 := by assumption) (hin : ∀ k ∈ ks, 0 ≤ k ∧ k < 256 := by assumption) (hkk : ∀ k r, ks = k :: r → r.length < k.toNat := by assumption) (hS : StreamP fs lst pre := by assumption) (hne : ∀ q ∈ (W, o) :: news, @Ne Nat q.1 lst := by assumption) (B : Below A₀ base outer h₀ := by k_asm) (hA : A.frames = some (envX cn cs L a ccd cl :: outer) := by exact rfl) (hh : A.handled = none := by exact rfl) (F : Fr h₀ L hp m := by k_asm) (X : (Mine.K w.params).In h₀ := by k_asm) (T : Top p loose mean mg mb h₀ := by k_asm) (hk : cs.kind = .function := by first | exact rfl | assumption) (hd : A.depth + 8 < recursionLimit := by ktr_room) (hu : A.units + 90 < cLine := by ktr_units) :
    wpAny (model prog w) A (call (.ref 58) [.ref fs]) Q E ⟨hp, gs, dr, tk9, os⟩ := by
  refine ClaimN.useA (c_str1eW trivial prog w p loose mean mg mb news pre W o b t ks n0 lst fs hb hks hin hkk hS hne) hA hh B F X N T hk hd hu ?_
  rintro e g n h' tk' ⟨b2, t2, n2, rfl⟩ F' R' U'
  exact ret e g b2 t2 n2 h' tk' F' R' U'
theorem use_stream {prog : Program} {w : World} {p : Program} {loose : List Str} {mean : ExcName → Option Value} {mg mb : Str → Option Value} {tb news : List (Addr × Obj)} {b : Array UInt8} {t : Tok} {A : Around} {cn : Str} {cs : Scope} {a : Addr} {ccd : Value} {cl : List (Str × Addr)} {outer : List Env} {A₀ : Around} {base h₀ : Heap} {L : Addr} {m : Str → Option Value} {hp : Heap} {gs : Array GenState} {dr : Drawn} {tk9 : Nat} {os : OsState} {Q E : Value → Shared → Prop}
    (N : News h₀ L hp (tb ++ news)) (ret : ∀ (fs lst : Addr) (n : Nat) (pre tb' : List (Addr × Obj)) (h' : Heap) (tk' : Nat), StreamP fs lst pre → (∀ q ∈ pre ++ news, @Ne Nat q.1 lst) → (∀ q ∈ news, @Ne Nat q.1 lst) → TabS tb' → (∀ q ∈ tb', q ∈ pre) → TabFrom tb tb' news → Fr h₀ L h' m → News h₀ L h' ((lst, listOf #[.bytes b t] n) :: (pre ++ news)) → Q (.ref fs) ⟨h', gs, dr, tk', os⟩)
    (hT : TabS tb := by assumption) (h7 : ∀ q ∈ news, @Ne Nat q.1 797 := by assumption) (B : Below A₀ base outer h₀ := by k_asm) (hA : A.frames = some (envX cn cs L a ccd cl :: outer) := by exact rfl) (hh : A.handled = none := by exact rfl) (F : Fr h₀ L hp m := by k_asm) (X : (Mine.K w.params).In h₀ := by k_asm) (T : Top p loose mean mg mb h₀ := by k_asm) (hk : cs.kind = .function := by first | exact rfl | assumption) (hd : A.depth + 3 < recursionLimit := by ktr_room) (hu : A.units + 40 < cLine := by ktr_units) :
    wpAny (model prog w) A (call (.ref 802) [.bytes b t]) Q E ⟨hp, gs, dr, tk9, os⟩ := by
  refine Claim.useA (c_stream trivial prog w p loose mean mg mb tb news b t hT h7) hA hh B F X N T hk hd hu ?_
  rintro v n' h' tk' ⟨fs, lst, n, pre, rfl, rfl, q0, q1, tb', q2, q3, q4⟩ F' N'
  exact ret fs lst n pre tb' h' tk' q0 q1 (fun q hq => q1 q (List.mem_append_right _ hq)) q2 q3 q4 F' N'
end
end
end
section
local macro_rules | `(tactic| walk_at "ENTER0") => `(tactic| (refine wpAny_call ?_; k_dflt (refine ent0 ?_); k_whole; intros; rename_i B'; (try dsimp only); (try k_lift B'); (try k_fold)))
section
local macro_rules | `(tactic| walk_at "call ref") => `(tactic| ktr_call 802 use_stream)
local macro_rules | `(tactic| walk_at "call ref") => `(tactic| ktr_call 51 use_uint1eW)
local macro_rules | `(tactic| walk_at "call ref") => `(tactic| ktr_call 51 use_uint1W)
theorem c_lawread0 : Wants PySem.Challenge.rw_in0077_01 Mine.K → ∀ (prog : Program) (w : World) (p : Program) (loose : List Str) (mean : ExcName → Option Value) (mg mb : Str → Option Value) (tb news : List (Addr × Obj)) (b : Array UInt8) (t : Tok),
  KBw.bInts b = [] → TabS tb → (∀ q ∈ news, @Ne Nat q.1 797) →
  Claim0 prog w (Mine.K w.params) p loose mean mg mb (tb ++ news) 30 500 (call (.ref 809) [.bytes b t]) (ReadOut tb [] news) := by
  k_fill
  intro hW prog w p loose mean mg mb tb news b t hb hT h797 dp un gd cn cs a ccd cl A₀ base h₀ L m s Q E B F X N T XB hk hd hu hret
  walk_at "ENTER0"
  obtain ⟨XB1, XB2⟩ := XB
  k_steps
  rename News h₀ _ _ _ => N9
  rename TabS _ => y9
  rename ∀ q ∈ _, q ∈ _ => z9
  rename _ ∧ AllLt _ (_ ++ news) => a9
  have w9 := tab_lt (news := news) y9 z9 a9
  rename _ ∧ _ ∧ AllLt _ (_ ++ news) => b9
  have b8 := b9
  obtain ⟨b1, _, _⟩ := b9
  replace b1 := ltN b1
  refine hret _ _ _ _ ⟨_, _, _, [], _, rfl, trivial, y9, by k_ne, by k_ne, fun q hq => ⟨allLt_get a9.2 q (List.mem_append_right _ hq), allLt_get b8.2.2 q (List.mem_append_right _ hq)⟩, by assumption, rfl⟩ (by k_asm) (fun q hq => N9 q (back_mem z9 q hq))
section
local macro_rules | `(tactic| walk_at "pyIter ref") => `(tactic| (refine stop_here ?_))
local macro_rules | `(tactic| walk_at "call ref") => `(tactic| ktr_call 58 use_str1eW)
local macro_rules | `(tactic| walk_at "call ref") => `(tactic| ktr_call 58 use_str1W)
local macro_rules | `(tactic| walk_at "InvEndN") => `(tactic| (refine stop_here ?_))
local macro_rules | `(tactic| walk_at "call builtin:list.append") => `(tactic| (k_dflt (refine appL ?_); k_whole; intro h' F' N'; (try k_sweep)))
structure RdS where
  ws : List Str
  vs : List Value
  n : Nat
  ks : List Int
  b : Array UInt8
  t : Tok
  n0 : Nat
theorem readN_len : ∀ (n : Nat) (ks : List Int), (readN n ks).1.length ≤ n := by
  intro n
  induction n with
  | zero => intro ks; simp [readN]
  | succ n ih =>
    intro ks
    cases ks with
    | nil => simp [readN]
    | cons k r =>
      unfold readN
      split
      · simp only [List.length_cons]; exact Nat.succ_le_succ (ih _)
      · simp
theorem TextsAre.len : ∀ {vs : List Value} {ws : List Str}, TextsAre vs ws → vs.length = ws.length := by
  intro vs
  induction vs with
  | nil => intro ws h; cases ws with | nil => rfl | cons => exact h.elim
  | cons a r ih => intro ws h; cases ws with | nil => exact h.elim | cons b q => exact congrArg (· + 1) (ih h.2)
theorem readN_yes {n : Nat} {k2 : Int} {r : List Int} (h : k2.toNat ≤ r.length) : readN (n + 1) (k2 :: r) = (textOf (r.take k2.toNat) :: (readN n (r.drop k2.toNat)).1, (readN n (r.drop k2.toNat)).2) := by
  rw [readN, if_pos h]
theorem readN_no {n : Nat} {ks : List Int} (h : ∀ k2 r, ks = k2 :: r → r.length < k2.toNat) : readN (n + 1) ks = ([], true) := by
  cases ks with
  | nil => rfl
  | cons k2 r => rw [readN, if_neg (Nat.not_le_of_lt (h k2 r rfl))]
theorem back_mem2 {tb pre news own : List (Addr × Obj)} {a b c : Addr × Obj} (hz : ∀ q ∈ tb, q ∈ pre) : ∀ q ∈ tb ++ a :: b :: news, q ∈ a :: b :: c :: (pre ++ (news ++ own)) := fun q hq => by
  simp only [List.mem_append, List.mem_cons] at hq ⊢
  rcases hq with h | h | h | h
  · simp [hz q h]
  · simp [h]
  · simp [h]
  · simp [h]
noncomputable abbrev rdLed (W lst : Addr) (rest : List (Addr × Obj)) (c : RdS) : List (Addr × Obj) := (W, listOf c.vs.toArray c.n) :: (lst, listOf #[.bytes c.b c.t] c.n0) :: rest
noncomputable abbrev rdFacts (c : RdS) : Prop := TextsAre c.vs c.ws ∧ KBw.bInts c.b = c.ks ∧ c.ks.length ≤ 400 ∧ ∀ k ∈ c.ks, 0 ≤ k ∧ k < 256
noncomputable abbrev rdP (k : Nat) (ks : List Int) (pre : List Int) (c : RdS) : Prop := readN k ks = (c.ws ++ (readN (k - pre.length) c.ks).1, (readN (k - pre.length) c.ks).2)
theorem rd_end {h₀ h : Heap} {L W lst : Addr} {m' m₀ : Str → Option Value} {vs : List Value} {ws : List Str} {v : Value} {y x : Str} {n n0 k : Nat} {b : Array UInt8} {t : Tok} {pre news own : List (Addr × Obj)} {ks ks2 pre' : List Int} {adr : List Addr} {s₁ : Shared} {tk : Nat}
    (F : Fr h₀ L h m') (N : News h₀ L h ((W, listOf (vs.toArray.push v) (n + 1)) :: (lst, listOf #[.bytes b t] n0) :: (pre ++ (news ++ own)))) (hv : ∃ t, v = .str y t) (hvs : TextsAre vs ws) (hb : KBw.bInts b = ks2) (hl : ks2.length ≤ 400) (hi : ∀ z ∈ ks2, 0 ≤ z ∧ z < 256)
    (hr : ∀ z, z ≠ x → m' z = m₀ z) (hp : rdP k ks pre' ⟨ws ++ [y], vs ++ [v], n + 1, ks2, b, t, n0⟩) (ha : ((rdLed W lst (pre ++ news) ⟨ws ++ [y], vs ++ [v], n + 1, ks2, b, t, n0⟩).map (·.1)) = adr) :
    InvEndN h₀ L (KstS (rdLed W lst (pre ++ news)) (fun _ => []) rdFacts x [] m₀ (rdP k ks) pre') own adr s₁ { s₁ with heap := h, toks := tk } := by
  rw [List.push_toArray] at N
  refine kst_end ⟨ws ++ [y], vs ++ [v], n + 1, ks2, b, t, n0⟩ F N (fun q hq => ?_) (fun q hq => ?_) ha ⟨TextsAre.snoc hv hvs, hb, hl, hi⟩ (fun q hq => nomatch hq) (fun z hz _ _ => hr z hz) hp
  · simp only [rdLed, List.mem_cons, List.mem_append] at hq ⊢
    rcases hq with h | h | h | h <;> simp [h]
  · simp only [List.mem_cons, List.mem_append]
    simp [hq]
theorem read_ret {h₀ h : Heap} {L T W : Addr} {vs : List Value} {ws : List Str} {n : Nat} {f : Bool} {c : Addr × Obj} {tb0 tb pre news own : List (Addr × Obj)} {ks : List Int}
    (N : News h₀ L h ((T, tupOf #[.ref W, .bool f]) :: (W, listOf vs.toArray n) :: c :: (pre ++ (news ++ own)))) (hvs : TextsAre vs ws) (hf : readF ks = (ws, f)) (hT : TabS tb) (hz : ∀ q ∈ tb, q ∈ pre) (h1 : @Ne Nat T 797) (h2 : @Ne Nat W 797) (h3 : ∀ q ∈ news, @LT.lt Nat _ q.1 W ∧ @LT.lt Nat _ q.1 T) (h4 : TabFrom tb0 tb news) :
    ReadOut tb0 ks news (.ref T) (tb ++ (T, tupOf #[.ref W, .bool f]) :: (W, listOf vs.toArray n) :: news) ∧ News h₀ L h (tb ++ (T, tupOf #[.ref W, .bool f]) :: (W, listOf vs.toArray n) :: news) :=
  ⟨⟨T, W, n, vs, tb, rfl, by rw [hf]; exact hvs, hT, h1, h2, h3, h4, by rw [hf]⟩, fun q hq => N q (back_mem2 hz q hq)⟩
theorem c_lawread1 : Wants PySem.Challenge.rw_in0077_01 Mine.K → ∀ (prog : Program) (w : World) (p : Program) (loose : List Str) (mean : ExcName → Option Value) (mg mb : Str → Option Value) (tb news : List (Addr × Obj)) (b : Array UInt8) (t : Tok) (k : Int) (ks : List Int),
  KBw.bInts b = k :: ks → (k :: ks).length ≤ 400 → TabS tb → (∀ q ∈ news, @Ne Nat q.1 797) →
  Claim0 prog w (Mine.K w.params) p loose mean mg mb (tb ++ news) 30 500 (call (.ref 809) [.bytes b t]) (ReadOut tb (k :: ks) news) := by
  k_fill
  intro hW prog w p loose mean mg mb tb news b t k ks hb hks hT h797 dp un gd cn cs a ccd cl A₀ base h₀ L m s Q E B F X N T XB hk hd hu hret
  walk_at "ENTER0"
  obtain ⟨XB1, XB2⟩ := XB
  k_steps
  show wpAny _ _ _ _ _ _
  rename IsRange _ _ _ _ _ _ _ _ => rg9
  rename Fr _ _ _ _ => F9
  rename News _ _ _ _ => N9
  rename KBw.bInts _ = ks => hb9
  rename StreamP _ _ _ => S9
  rename ∀ q ∈ news, _ => u9
  rename _ ∧ AllLt _ (_ ++ news) => a9
  rename TabS _ => y9
  rename ∀ q ∈ _, q ∈ _ => z9
  have w9 := tab_lt (news := news) y9 z9 a9
  have hin : ∀ z ∈ k :: ks, 0 ≤ z ∧ z < 256 := fun z hz => KBw.ints_in (hb ▸ hz)
  have hk0 := hin k (.head _)
  have hks' : ks.length ≤ 400 := by rw [List.length_cons] at hks; omega
  refine kst_range (rdLed _ _ _) (fun _ => []) rdFacts [] (rdP k.toNat ks) ⟨[], [], 0, ks, _, _, _⟩ rfl rg9 (small_one (by omega) (by omega) (by omega) (by omega)) (n := k.toNat) ?_ F9 N9 ⟨trivial, hb9, hks', fun z hz => hin z (.tail _ hz)⟩ (fun q hq => nomatch hq) ?_ ?_ ?_
  case refine_1 => rw [rangeSize_one]; split <;> omega
  case refine_2 => rfl
  case refine_4 =>
    rintro ⟨ws, vs, n, ks2, b2, t2, n2⟩ u h' tk ⟨hvs, hb2, hl2, hi2⟩ hP F1 N1
    dsimp only [rdLed, rdP] at *
    simp only [kstB, List.contains_nil, Bool.false_eq_true, if_false] at F1
    dsimp only [envOf] at F1 N1
    have a8 := a9.2
    replace a9 := ltN a9.1
    clear rg9 F9 N9 hb9
    k_steps
    rename News h₀ _ _ _ => N5
    rename _ ∧ _ ∧ AllLt _ _ => b9
    have b8 := b9.2.2
    obtain ⟨b1, _, _⟩ := b9
    replace b1 := ltN b1
    rw [rangeKs_length, Nat.sub_self, readN] at hP
    rw [← List.append_nil news] at N5
    obtain ⟨o6, N6⟩ := read_ret N5 hvs (ks := k :: ks) (by rw [readF, hP, List.append_nil]) y9 z9 (by k_ne) (by k_ne) (fun q hq => ⟨allLt_get a8 q (List.mem_append_right _ hq), by first | exact allLt_get b8 q (List.mem_append_right _ hq) | exact allLt_get b8 q (List.mem_append_right _ (List.mem_append_left _ hq))⟩) (by assumption)
    exact hret _ _ _ _ o6 (by k_asm) N6
  case refine_3 =>
    rintro ⟨ws, vs, n, ks2, b2, t2, n2⟩ pre kk tt u h' tk own hkk hlt hoff ⟨hvs, hb2, hl2, hi2⟩ hP F1 N1
    dsimp only [rdLed, rdP] at *
    simp only [kstB, List.contains_nil, Bool.false_eq_true, if_false, List.cons_append, List.append_assoc] at F1 N1
    have o1 := OwnOff.ne hoff (List.mem_cons_self ..)
    have o2 := OwnOff.ne hoff (List.mem_cons_of_mem _ (List.mem_cons_self ..))
    have hN : ∀ q ∈ (_, listOf vs.toArray n) :: (news ++ own), @Ne Nat q.1 _ := List.forall_mem_cons.mpr ⟨Nat.ne_of_gt a9.1, fun q hq => (List.mem_append.mp hq).elim (u9 q) (o2 q)⟩
    have hW1 : ∀ q ∈ _ ++ (news ++ own), @Ne Nat q.1 _ := fun q hq => (List.mem_append.mp hq).elim (fun h => Nat.ne_of_lt (allLt_get a9.2 q (List.mem_append_left _ h))) fun h => (List.mem_append.mp h).elim (fun h => Nat.ne_of_lt (allLt_get a9.2 q (List.mem_append_right _ h))) (o1 q)
    have a8 := a9.2
    replace a9 := ltN a9.1
    dsimp only [envOf] at F1 N1
    clear o1 o2 hoff rg9 F9 N9 hb9
    have hsz : vs.toArray.size ≤ sizeLine := by
      have h1 := readN_len k.toNat ks
      rw [hP, List.length_append] at h1
      have h2 := hvs.len
      rw [List.size_toArray, sizeLine_eq]
      omega
    by_cases hc : ∃ k2 r, ks2 = k2 :: r ∧ k2.toNat ≤ r.length
    · obtain ⟨k2, r, rfl, hle⟩ := hc
      have h20 := (hi2 k2 (.head _)).1
      k_steps
      show InvEndN _ _ _ _ _ _ _
      rename News _ _ _ _ => N5
      rename Fr _ _ _ _ => F5
      rename KBw.bInts _ = List.drop _ _ => b5
      refine rd_end F5 N5 ⟨_, rfl⟩ hvs b5 ?_ (fun z hz => hi2 z (.tail _ (List.mem_of_mem_drop hz))) (fun z hz => ?_) ?_ rfl
      · rw [List.length_drop]
        rw [List.length_cons] at hl2
        omega
      · first | exact if_neg hz | simp [hz]
      · show readN _ _ = _
        obtain ⟨j, hj⟩ : ∃ j, k.toNat - pre.length = j + 1 := ⟨k.toNat - pre.length - 1, by omega⟩
        have hj2 : k.toNat - (pre ++ [kk]).length = j := by rw [List.length_append, List.length_cons, List.length_nil]; omega
        rw [hP, hj, hj2, readN_yes hle]
        simp
    · have hno : ∀ k2 r, ks2 = k2 :: r → r.length < k2.toNat := fun k2 r e => Nat.lt_of_not_le fun h => hc ⟨k2, r, e, h⟩
      k_steps
      rename News h₀ _ _ _ => N5
      obtain ⟨j, hj⟩ : ∃ j, k.toNat - pre.length = j + 1 := ⟨k.toNat - pre.length - 1, by omega⟩
      rw [hj, readN_no hno] at hP
      rename _ ∧ _ ∧ AllLt _ _ => b9
      have b8 := b9.2.2
      obtain ⟨b1, _, _⟩ := b9
      replace b1 := ltN b1
      obtain ⟨o6, N6⟩ := read_ret N5 hvs (ks := k :: ks) (by rw [readF, hP, List.append_nil]) y9 z9 (by k_ne) (by k_ne) (fun q hq => ⟨allLt_get a8 q (List.mem_append_right _ hq), by first | exact allLt_get b8 q (List.mem_append_right _ hq) | exact allLt_get b8 q (List.mem_append_right _ (List.mem_append_left _ hq))⟩) (by assumption)
      exact hret _ _ _ _ o6 (by k_asm) N6
theorem c_lawread (hW : Wants PySem.Challenge.rw_in0077_01 Mine.K) (prog : Program) (w : World) (p : Program) (loose : List Str) (mean : ExcName → Option Value) (mg mb : Str → Option Value) (tb news : List (Addr × Obj)) (b : Array UInt8) (t : Tok) (ks : List Int) (hb : KBw.bInts b = ks) (hks : ks.length ≤ 400) (hT : TabS tb) (h797 : ∀ q ∈ news, @Ne Nat q.1 797) :
  Claim0 prog w (Mine.K w.params) p loose mean mg mb (tb ++ news) 30 500 (call (.ref 809) [.bytes b t]) (ReadOut tb ks news) := by
  cases ks with
  | nil => exact c_lawread0 hW prog w p loose mean mg mb tb news b t hb hT h797
  | cons k r => exact c_lawread1 hW prog w p loose mean mg mb tb news b t k r hb hks hT h797
section
variable {prog : Program} {w : World} {A : Around} {E : Value → Shared → Prop} {s : Shared} {env : Env} {h₀ : Heap} {x : Str} {body : List Stmt} {Q : Flow → Shared → Prop}
noncomputable def TurnEnd (h₀ : Heap) (L : Addr) (s : Shared) (I : Addr) (it : Obj) (J : (Str → Option Value) → List (Addr × Obj) → Prop) (f : Flow) (s' : Shared) : Prop :=
  f = .next ∧ ∃ h' tk' m₂ news₂, s' = { s with heap := h', toks := tk' } ∧ Fr h₀ L h' m₂ ∧ News h₀ L h' ((I, it) :: news₂) ∧ (∀ p ∈ news₂, @Ne Nat p.1 I) ∧ J m₂ news₂
theorem loop_list {l : Addr} {vs : List Value} {nl : Nat} {m₀ : Str → Option Value} {news : List (Addr × Obj)} (J : Nat → (Str → Option Value) → List (Addr × Obj) → Prop)
    (hh : A.handled = none) (F : Fr h₀ env.locals s.heap m₀) (N : News h₀ env.locals s.heap news) (hj : J 0 m₀ news) (hmem : ∀ i m₁ news₁, J i m₁ news₁ → (l, listOf vs.toArray nl) ∈ news₁)
    (turn : ∀ i v m₁ news₁ h tk I it, vs[i]? = some v → J i m₁ news₁ → (∀ p ∈ news₁, @Ne Nat p.1 I) → Fr h₀ env.locals h (fun y => if y = x then some v else m₁ y) → News h₀ env.locals h ((I, it) :: news₁) →
      wpAny (model prog w) A (execs body env) (TurnEnd h₀ env.locals s I it (J (i + 1))) E { s with heap := h, toks := tk })
    (done : ∀ m₁ news₁ h tk, J vs.length m₁ news₁ → Fr h₀ env.locals h m₁ → News h₀ env.locals h news₁ → Q .next { s with heap := h, toks := tk }) :
    wpAny (model prog w) A (pyIter (.ref l)) (fun it s₂ => LoopAtV prog w A h₀ env x body Q E it s₂) E s := by
  have hm := N _ (hmem _ _ _ hj)
  have hls : s.heap.IsList l vs.toArray := ⟨_, hm.1, rfl, nl, rfl⟩
  have hlt : l < s.heap.objs.size := Heap.lt_size hm.1
  have hne : l ≠ s.heap.objs.size := Nat.ne_of_lt hlt
  refine wpAny_pyIter_list hls ?_
  have W := Walks.list (prog := prog) (w := w) hh s.heap.objs.size l hne vs.toArray
  have hlen : vs.toArray.size = vs.length := by simp
  rw [hlen] at W
  refine ⟨_, _, _, vs.length, _, _, m₀, news, J, rfl, W, ?_, ?_, ?_, ⟨⟨_, Heap.get?_push_size _ rfl, rfl, rfl⟩, hls.at fun o e => Heap.get?_push_of_some _ e⟩, F.push _, (fun p hp => ⟨Heap.get?_push_of_some _ (N p hp).1, (N p hp).2⟩), hj, ?_, ?_⟩
  · intro h
    rcases List.mem_cons.mp h with e | h
    · exact absurd F.ns.lt (e ▸ Nat.lt_irrefl _)
    · exact hm.2.1 (List.mem_singleton.mp h).symm
  · intro b hb
    rw [List.mem_singleton.mp hb]
    exact next_is_new F
  · intro p hp hI
    exact absurd (Heap.lt_size (N p hp).1) ((List.mem_singleton.mp hI) ▸ Nat.lt_irrefl _)
  · rintro i v m₁ news₁ s₁ own ⟨hh', tk', rfl⟩ hin hP hJ hoff hown hget hall hst F₁ N₁
    obtain ⟨⟨it, hit, _, _⟩, ⟨ol, hol, _, _⟩⟩ := hst
    have hmI := hall s.heap.objs.size (List.mem_cons_self ..) (next_is_new F) _ hit
    have hv : vs[i]? = some v := by rw [← List.getElem?_toArray]; exact hP
    have hmemJ := hmem _ _ _ hJ
    refine wpAny_mono (turn i v m₁ news₁ hh' tk' s.heap.objs.size it hv hJ (fun p hp e => hoff p hp (List.mem_singleton.mpr e)) F₁ (fun p hp => ?_)) (fun f s' hf => ?_) fun _ _ e => e
    · rcases List.mem_cons.mp hp with rfl | hp
      · exact N₁ _ (List.mem_append_left _ hmI)
      · exact N₁ _ (List.mem_append_right _ hp)
    · obtain ⟨rfl, h', tk2, m₂, news₂, rfl, F₂, N₂, hoff₂, hJ₂⟩ := hf
      refine LoopStepV.next (LoopStepU.intro (s₁ := { s with heap := hh', toks := tk' }) F₂ (fun p hp => ?_) (fun p hp e => hoff₂ p hp (List.mem_singleton.mp e)) hJ₂)
      rcases List.mem_append.mp hp with hp | hp
      · have hg := hget p hp
        rcases List.mem_cons.mp (hown p hp) with e | e
        · have : p = (s.heap.objs.size, it) := by
            obtain ⟨a, o⟩ := p
            obtain rfl : a = _ := e
            rw [show o = it from Option.some.inj (hg.symm.trans hit)]
          rw [this]
          exact N₂ _ (.head _)
        · have e := List.mem_singleton.mp e
          have h2 := (N₁ _ (List.mem_append_right _ hmemJ)).1
          have : p = (l, listOf vs.toArray nl) := by
            obtain ⟨a, o⟩ := p
            obtain rfl : a = _ := e
            rw [show o = listOf vs.toArray nl from Option.some.inj (hg.symm.trans h2)]
          rw [this]
          exact N₂ _ (.tail _ (hmem _ _ _ hJ₂))
      · exact N₂ _ (.tail _ hp)
  · intro h' tk m' news' F' N' _ hJ
    exact done m' news' h' tk hJ F' N'
end
section
open LCg
variable {prog : Program} {w : World} {A : Around} {E : Value → Shared → Prop} {s : Shared} {h₀ : Heap} {L : Addr} {m : Str → Option Value} {env : Env}
theorem striter_st {I : Addr} {ty : String} {x : Str} {t : Tok} : ∀ i (h h' : Heap) (o : Obj) (nw : List (Addr × Obj)), h.IsStrIter I ty x t i → h.get? I = some o → h'.get? I = some o → (∀ b o, h₀.get? b = some o → h'.get? b = some o) → News h₀ L h' nw → True → h'.IsStrIter I ty x t i :=
  fun i h h' o nw st e e' _ _ _ => by
    obtain ⟨o', q, r⟩ := st
    rw [e] at q
    cases q
    exact ⟨o, e', r⟩
theorem comp_text {elt iter : Expr} {x : Str} {px : Pos} {scope : Scope} {cl : List (Str × Addr)} {pos : Pos} {Q : Value → Shared → Prop} (tx : Str) (_F₀ : Fr h₀ L s.heap m) (hh : A.handled = none)
    (hclos : closureFor scope env = pure cl) (hcell : ∀ y ∈ scope.names, y.2 ≠ .cell) (hkind : scope.kind = .function)
    (hnames : ∀ y ∈ scope.names, y.2 = .local → scope.names.lookup y.1 = some .local) (hx : scope.names.lookup x = some .local)
    (h : wpAny (model prog w) A (eval iter env) (fun xv s₁ => ∃ t news, xv = .str tx t ∧ Fr h₀ L s₁.heap m ∧ News h₀ L s₁.heap news ∧ tx.cps.size ≤ sizeLine ∧
      ∀ g, CompRest prog w A h₀ L m env elt x scope cl { s₁ with heap := g } (fun _ => True) (SignAt tx) (FinE h₀ L m { s₁ with heap := g } Q) tx.cps.size 0 [] news) E s)
    (hs : ∀ x, foldedSetIterable iter env x = pure x := by intro _; rfl) :
    wpAny (model prog w) A (eval (.ListComp elt [⟨.Name x px, iter, [], 0⟩] scope pos) env) Q E s := by
  rw [eval_ListComp]
  refine wpAny_comprehension_free (use := none) rfl hs hclos hkind hnames (wpAny_mono h (fun xv s₁ h₁ => ?_) fun _ _ e => e)
  obtain ⟨t, news, rfl, F, N, hsz, R⟩ := h₁
  have fin : ∀ (D C : Addr) (h : Heap) (tk : Tok) (m' : Str → Option Value) (ys : List Value) (news' : List (Addr × Obj)) (s₂ : Shared), Fr h₀ L h m → News h₀ L h ((D, lst ys) :: news') → Off1 D news' → h.Ns C m' → h₀.get? C = none → h₀.get? D = none → C ≠ L → D ≠ L → C ≠ D → (∀ p ∈ news', p.1 ≠ C) → FinE h₀ L m s₂ Q ys news' →
      ∃ m', h.Ns C m' ∧ ∀ h'', Heap.SameBut C h h'' → Q (.ref D) { s₂ with heap := h'', toks := tk } := by
    intro D C h tk m' ys news' s₂ F' N' o1 hn hC₀ hD₀ hCL hDL hCD offC fin
    refine ⟨m', hn, fun h'' hs'' => fin D h'' tk (F'.change hs'' hCL hC₀) (fun p hp => ?_) o1⟩
    refine ⟨hs''.extBut _ _ ?_ (N' p hp).1, (N' p hp).2⟩
    rcases List.mem_cons.mp hp with rfl | hp
    · exact Ne.symm hCD
    · exact offC p hp
  have fpl : ∀ (o : Obj), ∀ b ∈ [s₁.heap.objs.size], b < (s₁.heap.push o).objs.size := fun o b hb => by
    rw [List.mem_singleton.mp hb, Heap.size_push]; exact Nat.lt_succ_self _
  cases ha : tx.cps.all (· < 128)
  · refine wpAny_pyIter_wide ha ?_
    exact block_U (Walks.strWide hh s₁.heap.objs.size tx t) hsz (fun i h st => by obtain ⟨o, e, _⟩ := st; exact ⟨o, e⟩) striter_st hcell hkind hx ⟨_, Heap.get?_push_size _ rfl, rfl, rfl⟩ (fpl _)
      (F.keeps fun _ _ e => Heap.get?_push_of_some _ e) (N.grown fun _ _ e => Heap.get?_push_of_some _ e) (Nat.ne_of_lt F.ns.lt) (next_is_new F) (fun p hp => Nat.ne_of_lt (Heap.lt_size (N p hp).1)) trivial (R _)
      (fun D C h tk m' ys news' a b c d e f g i j k l => fin D C h tk m' ys news' _ a b c d e f g i j k l)
  · refine wpAny_pyIter_ascii ha ?_
    exact block_U (Walks.strAscii hh s₁.heap.objs.size tx t) hsz (fun i h st => by obtain ⟨o, e, _⟩ := st; exact ⟨o, e⟩) striter_st hcell hkind hx ⟨_, Heap.get?_push_size _ rfl, rfl, rfl⟩ (fpl _)
      (F.keeps fun _ _ e => Heap.get?_push_of_some _ e) (N.grown fun _ _ e => Heap.get?_push_of_some _ e) (Nat.ne_of_lt F.ns.lt) (next_is_new F) (fun p hp => Nat.ne_of_lt (Heap.lt_size (N p hp).1)) trivial (R _)
      (fun D C h tk m' ys news' a b c d e f g i j k l => fin D C h tk m' ys news' _ a b c d e f g i j k l)
end
section
variable {prog : Program} {w : World} {A : Around} {h₀ : Heap} {L : Addr} {m : Str → Option Value} {env : Env} {elt : Expr} {x : Str} {scope : Scope} {cl : List (Str × Addr)} {s : Shared} {S : List (Addr × Obj) → Prop} {P : Nat → Value → Prop} {Fin : List Value → List (Addr × Obj) → Prop} {news : List (Addr × Obj)}
theorem rest_rel {n : Nat} (R : Nat → Value → Prop)
    (turn : ∀ i v I oI C oC D m₂ ys h tk (E' : Value → Shared → Prop), i < n → P i v → LCg.NsObj oC m₂ → m₂ x = some v → Fr h₀ L h m → News h₀ L h ((I, oI) :: (C, oC) :: (D, LCg.lst ys) :: news) → LCg.Off3 I C D news → ((@Ne Nat I C) ∧ (@Ne Nat I D) ∧ (@Ne Nat C D)) →
      wpAny (model prog w) A (eval elt (compEnvC scope cl C env)) (LCg.CompEnd h₀ L m { s with heap := h, toks := tk } I oI C oC D (LCg.lst ys) S (fun y news' => news' = news ∧ R i y)) E' { s with heap := h, toks := tk })
    (fin : ∀ ys : List Value, ys.length = n → (∀ i v, ys[i]? = some v → R i v) → Fin ys news) : LCg.CompRest prog w A h₀ L m env elt x scope cl s S P Fin n 0 [] news := by
  have key : ∀ (j i : Nat) (ys : List Value), i + j = n → ys.length = i → (∀ k v, ys[k]? = some v → R k v) → LCg.CompRest prog w A h₀ L m env elt x scope cl s S P Fin j i ys news := by
    intro j
    induction j with
    | zero =>
      intro i ys hi hl hy
      exact LCg.CompRest.zero (fin ys (by omega) hy)
    | succ j ih =>
      intro i ys hi hl hy
      refine LCg.CompRest.succ ?_
      intro v I oI C oC D m₂ h tk E' hv hC hx F N off ne
      refine wpAny_mono (turn i v I oI C oC D m₂ ys h tk E' (by omega) hv hC hx F N off ne) (fun y s₂ hq => ?_) fun _ _ e => e
      obtain ⟨h', tk', nw, e, F', N', off', hS, hn, hy'⟩ := hq
      rw [hn] at N' off' hS
      refine ⟨h', tk', news, e, F', N', off', hS, ?_⟩
      refine ih (i + 1) _ (by omega) (by simp [hl]) (fun k v hk => ?_)
      by_cases hki : k < ys.length
      · rw [List.getElem?_append_left hki] at hk
        exact hy k v hk
      · have hge : ys.length ≤ k := Nat.le_of_not_lt hki
        rw [List.getElem?_append_right hge] at hk
        have : k - ys.length = 0 := by
          cases hz : k - ys.length with
          | zero => rfl
          | succ z => rw [hz] at hk; simp at hk
        rw [this] at hk
        simp at hk
        subst hk
        have : k = i := by omega
        rw [this]
        exact hy'
  exact key n 0 [] (by omega) rfl (fun k v hk => by simp at hk)
end
section
variable {prog : Program} {w : World} {A : Around} {h₀ : Heap} {L : Addr} {m : Str → Option Value} {env : Env} {ct elt : Expr} {x : Str} {scope : Scope} {cl : List (Str × Addr)} {s : Shared} {S : List (Addr × Obj) → Prop} {P : Nat → Value → Prop} {Fin : List Value → List (Addr × Obj) → Prop} {news : List (Addr × Obj)}
theorem rest_inv {n : Nat} (J : Nat → List Value → List (Addr × Obj) → Prop)
    (turn : ∀ i v I oI C oC D m₂ ys news h tk (E' : Value → Shared → Prop), i < n → P i v → J i ys news → LCg.NsObj oC m₂ → m₂ x = some v → Fr h₀ L h m → News h₀ L h ((I, oI) :: (C, oC) :: (D, LCg.lst ys) :: news) → LCg.Off3 I C D news → ((@Ne Nat I C) ∧ (@Ne Nat I D) ∧ (@Ne Nat C D)) →
      wpAny (model prog w) A (eval elt (compEnvC scope cl C env)) (LCg.CompEnd h₀ L m { s with heap := h, toks := tk } I oI C oC D (LCg.lst ys) S (fun y news' => J (i + 1) (ys ++ [y]) news')) E' { s with heap := h, toks := tk })
    (fin : ∀ ys news, J n ys news → Fin ys news) (h0 : J 0 [] news) : LCg.CompRest prog w A h₀ L m env elt x scope cl s S P Fin n 0 [] news := by
  have key : ∀ (j i : Nat) (ys : List Value) (news : List (Addr × Obj)), i + j = n → J i ys news → LCg.CompRest prog w A h₀ L m env elt x scope cl s S P Fin j i ys news := by
    intro j
    induction j with
    | zero =>
      intro i ys news hi hy
      obtain rfl : i = n := by omega
      exact LCg.CompRest.zero (fin ys news hy)
    | succ j ih =>
      intro i ys news hi hy
      refine LCg.CompRest.succ ?_
      intro v I oI C oC D m₂ h tk E' hv hC hx F N off ne
      refine wpAny_mono (turn i v I oI C oC D m₂ ys news h tk E' (by omega) hv hy hC hx F N off ne) (fun y s₂ hq => ?_) fun _ _ e => e
      obtain ⟨h', tk', nw, e, F', N', off', hS, hn⟩ := hq
      exact ⟨h', tk', nw, e, F', N', off', hS, ih (i + 1) _ _ (by omega) hn⟩
  exact key n 0 [] news (by omega) h0
theorem rest_invT {n : Nat} (J : Nat → List Value → List (Addr × Obj) → Prop)
    (turn : ∀ i v I oI C oC D m₂ ys news h tk (E' : Value → Shared → Prop), i < n → P i v → J i ys news → LCg.NsObj oC m₂ → m₂ x = some v → Fr h₀ L h m → News h₀ L h ((I, oI) :: (C, oC) :: (D, LCg.lst ys) :: news) → LCg.Off3 I C D news → ((@Ne Nat I C) ∧ (@Ne Nat I D) ∧ (@Ne Nat C D)) →
      wpAny (model prog w) A (isTrue ct (compEnvC scope cl C env) (eval ct (compEnvC scope cl C env))) (fun ok s' => if ok = true then
        wpAny (model prog w) A (eval elt (compEnvC scope cl C env)) (LCg.CompEnd h₀ L m { s with heap := h, toks := tk } I oI C oC D (LCg.lst ys) S (fun y news' => J (i + 1) (ys ++ [y]) news')) E' s'
        else LCg.CompEnd h₀ L m { s with heap := h, toks := tk } I oI C oC D (LCg.lst ys) S (fun _ news' => J (i + 1) ys news') Value.none s') E' { s with heap := h, toks := tk })
    (fin : ∀ ys news, J n ys news → Fin ys news) (h0 : J 0 [] news) : LCt.CompRestT prog w A h₀ L m env ct elt x scope cl s S P Fin n 0 [] news := by
  have key : ∀ (j i : Nat) (ys : List Value) (news : List (Addr × Obj)), i + j = n → J i ys news → LCt.CompRestT prog w A h₀ L m env ct elt x scope cl s S P Fin j i ys news := by
    intro j
    induction j with
    | zero =>
      intro i ys news hi hy
      obtain rfl : i = n := by omega
      exact LCt.CompRestT.zero (fin ys news hy)
    | succ j ih =>
      intro i ys news hi hy
      refine LCt.CompRestT.succ ?_
      intro v I oI C oC D m₂ h tk E' hv hC hx F N off ne
      refine wpAny_mono (turn i v I oI C oC D m₂ ys news h tk E' (by omega) hv hy hC hx F N off ne) (fun b s₂ hq => ?_) fun _ _ e => e
      cases b with
      | true =>
        simp only [if_true] at hq ⊢
        refine wpAny_mono hq (fun y s₃ hr => ?_) fun _ _ e => e
        obtain ⟨h', tk', nw, e, F', N', off', hS, hn⟩ := hr
        exact ⟨h', tk', nw, e, F', N', off', hS, ih (i + 1) _ _ (by omega) hn⟩
      | false =>
        simp only [Bool.false_eq_true, if_false] at hq ⊢
        obtain ⟨h', tk', nw, e, F', N', off', hS, hn⟩ := hq
        exact ⟨h', tk', nw, e, F', N', off', hS, ih (i + 1) _ _ (by omega) hn⟩
  exact key n 0 [] news (by omega) h0
end
section
open LCg
variable {prog : Program} {w : World} {A : Around} {E : Value → Shared → Prop} {s : Shared} {h₀ : Heap} {L : Addr} {m : Str → Option Value} {env : Env}
noncomputable def TextSrc (prog : Program) (w : World) (A : Around) (h₀ : Heap) (L : Addr) (m : Str → Option Value) (env : Env) (elt : Expr) (x : Str) (scope : Scope) (cl : List (Str × Addr)) (Q : Value → Shared → Prop) (tx : Str) (xv : Value) (s₁ : Shared) : Prop :=
  ∃ t news, xv = .str tx t ∧ Fr h₀ L s₁.heap m ∧ News h₀ L s₁.heap news ∧ tx.cps.size ≤ sizeLine ∧
      ∀ g, CompRest prog w A h₀ L m env elt x scope cl { s₁ with heap := g } (fun _ => True) (SignAt tx) (FinE h₀ L m { s₁ with heap := g } Q) tx.cps.size 0 [] news
theorem comp_textD {elt iter : Expr} {x : Str} {px : Pos} {scope : Scope} {cl : List (Str × Addr)} {pos : Pos} {Q : Value → Shared → Prop} (tx : Str) (F₀ : Fr h₀ L s.heap m) (hh : A.handled = none)
    (hclos : closureFor scope env = pure cl) (hcell : ∀ y ∈ scope.names, y.2 ≠ .cell) (hkind : scope.kind = .function)
    (hnames : ∀ y ∈ scope.names, y.2 = .local → scope.names.lookup y.1 = some .local) (hx : scope.names.lookup x = some .local)
    (h : wpAny (model prog w) A (eval iter env) (TextSrc prog w A h₀ L m env elt x scope cl Q tx) E s)
    (hs : ∀ x, foldedSetIterable iter env x = pure x := by intro _; rfl) :
    wpAny (model prog w) A (eval (.ListComp elt [⟨.Name x px, iter, [], 0⟩] scope pos) env) Q E s :=
  comp_text tx F₀ hh hclos hcell hkind hnames hx h hs
end
section
open LCg
variable {prog : Program} {w : World} {A : Around} {E : Value → Shared → Prop} {s : Shared} {h₀ : Heap} {L : Addr} {m : Str → Option Value} {env : Env}
theorem comp_textT0 {ct elt iter : Expr} {x : Str} {px : Pos} {scope : Scope} {cl : List (Str × Addr)} {pos : Pos} {Q : Value → Shared → Prop} (tx : Str) (_F₀ : Fr h₀ L s.heap m) (hh : A.handled = none)
    (hclos : closureFor scope env = pure cl) (hcell : ∀ y ∈ scope.names, y.2 ≠ .cell) (hkind : scope.kind = .function)
    (hnames : ∀ y ∈ scope.names, y.2 = .local → scope.names.lookup y.1 = some .local) (hx : scope.names.lookup x = some .local)
    (h : wpAny (model prog w) A (eval iter env) (fun xv s₁ => ∃ t news, xv = .str tx t ∧ Fr h₀ L s₁.heap m ∧ News h₀ L s₁.heap news ∧ tx.cps.size ≤ sizeLine ∧
      ∀ g, LCt.CompRestT prog w A h₀ L m env ct elt x scope cl { s₁ with heap := g } (fun _ => True) (SignAt tx) (FinE h₀ L m { s₁ with heap := g } Q) tx.cps.size 0 [] news) E s)
    (hs : ∀ x, foldedSetIterable iter env x = pure x := by intro _; rfl) :
    wpAny (model prog w) A (eval (.ListComp elt [⟨.Name x px, iter, [ct], 0⟩] scope pos) env) Q E s := by
  rw [eval_ListComp]
  refine wpAny_comprehension_free (use := none) rfl hs hclos hkind hnames (wpAny_mono h (fun xv s₁ h₁ => ?_) fun _ _ e => e)
  obtain ⟨t, news, rfl, F, N, hsz, R⟩ := h₁
  have fin : ∀ (D C : Addr) (h : Heap) (tk : Tok) (m' : Str → Option Value) (ys : List Value) (news' : List (Addr × Obj)) (s₂ : Shared), Fr h₀ L h m → News h₀ L h ((D, lst ys) :: news') → Off1 D news' → h.Ns C m' → h₀.get? C = none → h₀.get? D = none → C ≠ L → D ≠ L → C ≠ D → (∀ p ∈ news', p.1 ≠ C) → FinE h₀ L m s₂ Q ys news' →
      ∃ m', h.Ns C m' ∧ ∀ h'', Heap.SameBut C h h'' → Q (.ref D) { s₂ with heap := h'', toks := tk } := by
    intro D C h tk m' ys news' s₂ F' N' o1 hn hC₀ hD₀ hCL hDL hCD offC fin
    refine ⟨m', hn, fun h'' hs'' => fin D h'' tk (F'.change hs'' hCL hC₀) (fun p hp => ?_) o1⟩
    refine ⟨hs''.extBut _ _ ?_ (N' p hp).1, (N' p hp).2⟩
    rcases List.mem_cons.mp hp with rfl | hp
    · exact Ne.symm hCD
    · exact offC p hp
  have fpl : ∀ (o : Obj), ∀ b ∈ [s₁.heap.objs.size], b < (s₁.heap.push o).objs.size := fun o b hb => by
    rw [List.mem_singleton.mp hb, Heap.size_push]; exact Nat.lt_succ_self _
  cases ha : tx.cps.all (· < 128)
  · refine wpAny_pyIter_wide ha ?_
    exact LCt.block_T (Walks.strWide hh s₁.heap.objs.size tx t) hsz (fun i h st => by obtain ⟨o, e, _⟩ := st; exact ⟨o, e⟩) striter_st hcell hkind hx ⟨_, Heap.get?_push_size _ rfl, rfl, rfl⟩ (fpl _)
      (F.keeps fun _ _ e => Heap.get?_push_of_some _ e) (N.grown fun _ _ e => Heap.get?_push_of_some _ e) (Nat.ne_of_lt F.ns.lt) (next_is_new F) (fun p hp => Nat.ne_of_lt (Heap.lt_size (N p hp).1)) trivial (R _)
      (fun D C h tk m' ys news' a b c d e f g i j k l => fin D C h tk m' ys news' _ a b c d e f g i j k l)
  · refine wpAny_pyIter_ascii ha ?_
    exact LCt.block_T (Walks.strAscii hh s₁.heap.objs.size tx t) hsz (fun i h st => by obtain ⟨o, e, _⟩ := st; exact ⟨o, e⟩) striter_st hcell hkind hx ⟨_, Heap.get?_push_size _ rfl, rfl, rfl⟩ (fpl _)
      (F.keeps fun _ _ e => Heap.get?_push_of_some _ e) (N.grown fun _ _ e => Heap.get?_push_of_some _ e) (Nat.ne_of_lt F.ns.lt) (next_is_new F) (fun p hp => Nat.ne_of_lt (Heap.lt_size (N p hp).1)) trivial (R _)
      (fun D C h tk m' ys news' a b c d e f g i j k l => fin D C h tk m' ys news' _ a b c d e f g i j k l)
noncomputable def TextSrcT (prog : Program) (w : World) (A : Around) (h₀ : Heap) (L : Addr) (m : Str → Option Value) (env : Env) (ct elt : Expr) (x : Str) (scope : Scope) (cl : List (Str × Addr)) (Q : Value → Shared → Prop) (tx : Str) (xv : Value) (s₁ : Shared) : Prop :=
  ∃ t news, xv = .str tx t ∧ Fr h₀ L s₁.heap m ∧ News h₀ L s₁.heap news ∧ tx.cps.size ≤ sizeLine ∧
      ∀ g, LCt.CompRestT prog w A h₀ L m env ct elt x scope cl { s₁ with heap := g } (fun _ => True) (SignAt tx) (FinE h₀ L m { s₁ with heap := g } Q) tx.cps.size 0 [] news
theorem comp_textT {ct elt iter : Expr} {x : Str} {px : Pos} {scope : Scope} {cl : List (Str × Addr)} {pos : Pos} {Q : Value → Shared → Prop} (tx : Str) (F₀ : Fr h₀ L s.heap m) (hh : A.handled = none)
    (hclos : closureFor scope env = pure cl) (hcell : ∀ y ∈ scope.names, y.2 ≠ .cell) (hkind : scope.kind = .function)
    (hnames : ∀ y ∈ scope.names, y.2 = .local → scope.names.lookup y.1 = some .local) (hx : scope.names.lookup x = some .local)
    (h : wpAny (model prog w) A (eval iter env) (TextSrcT prog w A h₀ L m env ct elt x scope cl Q tx) E s)
    (hs : ∀ x, foldedSetIterable iter env x = pure x := by intro _; rfl) :
    wpAny (model prog w) A (eval (.ListComp elt [⟨.Name x px, iter, [ct], 0⟩] scope pos) env) Q E s :=
  comp_textT0 tx F₀ hh hclos hcell hkind hnames hx h hs
end
end
end
end
section
local macro_rules | `(tactic| walk_at "exec For") => `(tactic| ((with_reducible rename Fr _ _ _ _ => lF'); (with_unfolding_all refine' For_invVF lF' ?k1 ?k2 ?_; (case k1 => exact rfl); (case k2 => exact rfl); k_whole)))
local macro_rules | `(tactic| walk_at "pyIter ref") => `(tactic| (refine stop_here ?_))
local macro_rules | `(tactic| walk_at "eval ListComp") => `(tactic| (refine stop_here ?_))
local macro_rules | `(tactic| walk_at "binaryOp Add ref ref") => `(tactic| (k_dflt (refine addL ?_); k_whole; intro _ _ _ _ _ l1 _; (try k_lt l1)))
section
noncomputable def tapeW (w : Str) : List Int := (w.length : Int) :: w.cps.toList.map (fun (c : Nat) => (c : Int))
noncomputable def tapeF (n : Nat) (ws : List Str) : List Int := (n : Int) :: ws.flatMap tapeW
noncomputable abbrev tapeM (l O : Addr) (u : Option Value) : Str → Option Value := fun y => if y = Str.ofString "octets" then some (.ref O) else if y = Str.ofString "word" then u else if y = Str.ofString "words" then some (.ref l) else none
theorem ints_of_signs {y : Str} : ∀ {ys : List Value}, ys.length = y.cps.size → (∀ (i : Nat) v, ys[i]? = some v → ∃ (c : Nat) (u : Tok), y.cps[i]? = some c ∧ v = .int (c : Int) u) → IntsAre ys (y.cps.toList.map (fun (c : Nat) => (c : Int))) := by
  obtain ⟨l⟩ := y
  obtain ⟨l⟩ := l
  intro ys
  simp only [List.size_toArray, List.getElem?_toArray]
  induction l generalizing ys with
  | nil => intro hl _; cases ys with | nil => exact .nil | cons => simp at hl
  | cons c r ih =>
    intro hl hr
    cases ys with
    | nil => simp at hl
    | cons v q =>
      obtain ⟨c', u, h1, h2⟩ := hr 0 v rfl
      simp at h1
      subst h1
      subst h2
      exact .cons _ u (ih (by simpa using hl) fun i w hw => by simpa using hr (i + 1) w (by simpa using hw))
theorem tape_end {h₀ h : Heap} {L O I l : Addr} {m' : Str → Option Value} {us : List Value} {vs : List Value} {n n0 : Nat} {it : Obj} {news : List (Addr × Obj)} {a b c d : Addr × Obj} {s : Shared} {tk : Nat} {u : Option Value} {f : Nat → List Int} {i : Nat}
    (F : Fr h₀ L h m') (N : News h₀ L h ((O, listOf us.toArray n0) :: a :: b :: c :: (I, it) :: d :: (l, listOf vs.toArray n) :: news)) (hI : ∀ p ∈ d :: (l, listOf vs.toArray n) :: news, @Ne Nat p.1 I) (hO : @Ne Nat O I) (hi : IntsAre us (f (i + 1))) (hm : m' = tapeM l O u) :
    TurnEnd h₀ L s I it (fun m₁ news₁ => ∃ O its nO u, m₁ = tapeM l O u ∧ IntsAre its (f (i + 1)) ∧ news₁ = (O, listOf its.toArray nO) :: (l, listOf vs.toArray n) :: news) .next { s with heap := h, toks := tk } :=
  ⟨rfl, h, tk, _, (O, listOf us.toArray n0) :: (l, listOf vs.toArray n) :: news, rfl, F, (fun q hq => N q (by simp only [List.mem_cons] at hq ⊢; rcases hq with h | h | h | h <;> simp [h])), (fun q hq => by
    rcases List.mem_cons.mp hq with rfl | hq
    · exact hO
    · exact hI q (.tail _ hq)), O, us, n0, u, hm, hi, rfl⟩
theorem tapeF_len (n : Nat) : ∀ {ws : List Str}, (∀ y ∈ ws, y.length ≤ 255) → (tapeF n ws).length ≤ 1 + 256 * ws.length := by
  intro ws
  induction ws with
  | nil => intro _; simp [tapeF]
  | cons a r ih =>
    intro h
    have h1 := ih fun y hy => h y (.tail _ hy)
    have h2 : a.cps.toList.length ≤ 255 := h a (.head _)
    simp only [tapeF, tapeW, List.flatMap_cons, List.length_cons, List.length_append, List.length_map] at h1 ⊢
    omega
theorem tapeF_in {n : Nat} (hn : n < 256) {ws : List Str} (h : ∀ y ∈ ws, y.length ≤ 255 ∧ ∀ c ∈ y.cps.toList, c < 256) : KBa.In (tapeF n ws) := by
  intro k hk
  simp only [tapeF, tapeW, List.mem_cons, List.mem_flatMap, List.mem_map] at hk
  rcases hk with rfl | ⟨y, hy, rfl | ⟨c, hc, rfl⟩⟩
  · omega
  · have := (h y hy).1; omega
  · have := (h y hy).2 c hc; omega
local macro_rules | `(tactic| walk_at "call type:bytes") => `(tactic| ((with_reducible rename Fr _ _ _ _ => lF'); (with_reducible rename News _ _ _ _ => lN'); (k_dflt (refine' KBa.make_K lF' lN' ?yh (News.isList lN' ?yl) ?yi ?yr ?yn ?yk)); (case yh => first | exact rfl | assumption); (case yl => k_mem); (case yi => assumption); (case yr => assumption); (case yn => assumption); (clear lF' lN'; intro h9 t9 k9 F9 N9 i9)))
theorem tapeM_start {l O : Addr} {ls : List (Str × Value)} (h : ls = [(Str.ofString "words", .ref l)]) : (fun y => if y = Str.ofString "octets" then some (.ref O) else List.lookup y ls) = tapeM l O none := by
  subst h
  funext z
  simp only [tapeM, List.lookup]
  by_cases e : z = Str.ofString "words"
  · subst e; rfl
  · rw [if_neg e]
    split
    · rfl
    · split <;> simp_all
theorem c_tape : Wants PySem.Challenge.rw_in0077_01 Mine.K → ∀ (prog : Program) (w : World) (p : Program) (loose : List Str) (mean : ExcName → Option Value) (mg mb : Str → Option Value) (news : List (Addr × Obj)) (l : Addr) (vs : List Value) (ws : List Str) (n : Nat), TextsAre vs ws → ws.length ≤ 20 → (∀ y ∈ ws, y.length ≤ 255 ∧ ∀ c ∈ y.cps.toList, c < 256) →
  Claim prog w (Mine.K w.params) p loose mean mg mb ((l, listOf vs.toArray n) :: news) 6 80 (call (.ref 795) [.ref l]) (fun v news' => news' = (l, listOf vs.toArray n) :: news ∧ ∃ b t, v = .bytes b t ∧ KBw.bInts b = tapeF ws.length ws) := by
  k_fill
  intro _ prog w p loose mean mg mb news l vs ws n hvs hws hys dp un gd cn cs a ccd cl outer A₀ base h₀ L m s Q E B F X N T hk hd hu hret
  have hlen : vs.length = ws.length := by
    clear N F hys hret
    induction vs generalizing ws with
    | nil => cases ws with | nil => rfl | cons => exact hvs.elim
    | cons a r ih => cases ws with | nil => exact hvs.elim | cons b q => exact congrArg (· + 1) (ih q hvs.2 (Nat.le_of_succ_le hws))
  have hl2 : vs.toArray.size ≤ 1099511627776 := by rw [List.size_toArray, hlen]; omega
  walk_at "ENTER"
  k_steps
  show wpAny _ _ _ _ _ _
  rename Fr _ _ _ _ => F9
  rename News _ _ _ _ => N9
  refine loop_list (vs := vs) (nl := n) (fun i m₁ news₁ => ∃ O its nO u, m₁ = tapeM l O u ∧ IntsAre its (tapeF vs.toArray.size (ws.take i)) ∧ news₁ = (O, listOf its.toArray nO) :: (l, listOf vs.toArray n) :: news) rfl F9 N9 ⟨_, [_], _, none, ?_, ?_, rfl⟩ ?_ ?_ ?_
  case refine_4 =>
    rintro i v m₁ news₁ h tk I it hv ⟨O, its, nO, u, rfl, hits, rfl⟩ hI F1 N1
    obtain ⟨y, ty, hy, rfl⟩ := texts_at hvs hv
    have hy1 := (hys y (List.mem_of_getElem? hy)).1
    have hy2 : y.length ≤ 1099511627776 := Nat.le_trans hy1 (by decide)
    have hy3 : y.length < 2 ^ 62 := Nat.lt_of_le_of_lt hy1 (by decide)
    clear F9 N9
    have hy4 : y.cps.toList.length ≤ 255 := hy1
    have hlt : (tapeF vs.toArray.size (ws.take i)).length + 300 ≤ sizeLine := by
      rw [sizeLine_eq]
      have a1 := tapeF_len vs.toArray.size (ws := ws.take i) fun y hy => (hys y (List.mem_of_mem_take hy)).1
      have a2 : (ws.take i).length ≤ ws.length := by rw [List.length_take]; exact Nat.min_le_right _ _
      omega
    k_steps
    show wpAny _ _ _ _ _ _
    rename Fr _ _ _ _ => F5
    rename News _ _ _ _ => N5
    refine comp_text y F5 rfl (by with_unfolding_all rfl) (by decide) (by rfl) (by decide) (by rfl) ?_
    walk1
    refine ⟨_, _, rfl, F5, N5, ?_, fun g => rest_rel (fun i v => ∃ c u, y.cps[i]? = some c ∧ v = .int ((c : Nat) : Int) u) ?_ ?_⟩
    case refine_1 => rw [sizeLine_eq]; exact Nat.le_trans hy1 (by decide)
    case refine_2 =>
      rintro i v I oI C oC D m₂ ys h tk E' hi ⟨c, u, hc, rfl⟩ hC hx F N off ne
      k_steps
      exact LCg.CompEnd.intro F N _ (fun p hp => hp) off trivial ⟨rfl, c, _, hc, rfl⟩
    case refine_3 =>
      intro ys hl hr D h tk F N o1
      have hys : IntsAre ys (y.cps.toList.map (fun (c : Nat) => (c : Int))) := ints_of_signs hl hr
      clear F5 N5
      k_steps
      rename Fr _ _ _ _ => F6
      rename News _ _ _ _ => N6
      rename IntsAre _ (_ ++ _) => i6
      have e6 : tapeF vs.toArray.size (ws.take (i + 1)) = tapeF vs.toArray.size (ws.take i) ++ [(y.length : Int)] ++ y.cps.toList.map (fun (c : Nat) => (c : Int)) := by
        rw [List.take_add_one, hy]
        simp [tapeF, tapeW, List.flatMap_append]
      refine tape_end (f := fun i => tapeF vs.toArray.size (ws.take i)) (u := some (.str y ty)) F6 N6 hI (by k_ne) (by show IntsAre _ (tapeF vs.toArray.size (ws.take (i + 1))); rw [e6]; exact i6) ?_
      funext z
      simp +zetaDelta only [tapeM]
      split
      · rfl
      · split <;> rfl
  case refine_3 => rintro i m₁ news₁ ⟨O, its, nO, u, rfl, _, rfl⟩; simp
  case refine_5 =>
    rintro m₁ news₁ h tk ⟨O, its, nO, u, rfl, hits, rfl⟩ F1 N1
    clear F9 N9
    have e0 : tapeF vs.toArray.size (ws.take vs.length) = tapeF ws.length ws := by rw [List.size_toArray, hlen, List.take_length]
    rw [e0] at hits
    have hr : KBa.In (tapeF ws.length ws) := tapeF_in (by omega) hys
    have hn : (tapeF ws.length ws).length ≤ 16777216 := by
      have a1 := tapeF_len ws.length (ws := ws) fun y hy => (hys y hy).1
      omega
    k_steps
    all_goals (refine' hret _ ((l, listOf vs.toArray n) :: news) _ _ ?o1 ?f1 ?n1; (case f1 => k_asm); (case o1 => exact ⟨rfl, _, _, rfl, KBa.ints_make hr⟩); (case n1 => exact news_tl (by k_asm)))
  case refine_2 => exact .cons _ _ .nil
  case refine_1 => exact tapeM_start (by kernel_rfl)
end
end
section
local macro_rules | `(tactic| k_lt $h:ident) => `(tactic| ((with_reducible first | refine lts9 $h ?_ | refine lts8 $h ?_ | refine lts7 $h ?_ | refine lts6 $h ?_ | refine lts5 $h ?_ | refine lts4 $h ?_ | refine lts3 $h ?_ | refine lts2 $h ?_ | refine lts1 $h ?_); intro $h:ident; intros; (first | (have w9 : Seen := (by assumption); clear $h) | have w9 : Seen := Seen.mk)))
local macro_rules | `(tactic| k_all) => `(tactic| exact allLt_ne1 (by assumption) (by omega))
local macro_rules | `(tactic| k_all) => `(tactic| with_reducible assumption)
local macro_rules | `(tactic| walk_at "setAttr") => `(tactic| (k_dflt (refine fsa ?_); k_whole; intros; rename_i N' r' l1; (try dsimp only at N'); (try k_lt l1)))
section
local macro_rules | `(tactic| walk_at "eval ListComp") => `(tactic| (refine stop_here ?_))
local macro_rules | `(tactic| walk_at "CompSrc") => `(tactic| (refine stop_here ?_))
local macro_rules | `(tactic| walk_at "exec Assign cons ListComp") => `(tactic| (refine stop_here ?_))
local macro_rules | `(tactic| walk_at "exec Assign cons ListComp") => `(tactic| (refine exec_asg (by with_unfolding_all rfl) ?_))
local macro_rules | `(tactic| walk_at "SLICE") => `(tactic| ((with_reducible show wpAny _ _ (subscriptTail _ (Expr.Slice _ _ none _) (Value.ref _) (Value.ref _)) _ _ _); k_dflt (refine slc ?_); intros; rename_i l1; (try k_lt l1)))
local macro_rules | `(tactic| walk_at "subscriptTail") => `(tactic| walk_at "SLICE")
local macro_rules | `(tactic| walk_at "CompSrcT") => `(tactic| (refine stop_here ?_))
section
noncomputable def endsF (ws : List Str) (k : Nat) : Nat := 1 + ((ws.take k).map (fun w => 1 + w.length)).sum
noncomputable def wholeF (ws : List Str) (cut : Nat) : List Nat := (List.range (ws.length + 1)).filter (fun k => endsF ws k ≤ cut)
noncomputable def dueF (ws : List Str) (cut : Nat) : List Str × Bool := (match (wholeF ws cut).getLast? with | none => [] | some k => ws.take k, decide (cut < endsF ws ws.length))
noncomputable def wholeI (ws : List Str) (cut i : Nat) : List Int := ((List.range i).filter (fun k => decide (endsF ws k ≤ cut))).map Int.ofNat
theorem whole_yes {ws : List Str} {cut i : Nat} (h : endsF ws i ≤ cut) : wholeI ws cut (i + 1) = wholeI ws cut i ++ [(i : Int)] := by
  simp [wholeI, List.range_succ, List.filter_append, h]
theorem whole_no {ws : List Str} {cut i : Nat} (h : ¬ endsF ws i ≤ cut) : wholeI ws cut (i + 1) = wholeI ws cut i := by
  simp [wholeI, List.range_succ, List.filter_append, h]
theorem ends_getD {ws : List Str} {n i : Nat} (h : i < n) : ((List.range n).map fun k => (endsF ws k : Int)).getD (i : Int).toNat 0 = (endsF ws i : Int) := by
  rw [Int.toNat_natCast, List.getD_eq_getElem?_getD, List.getElem?_map, List.getElem?_range h]; rfl
theorem whole_last {ws : List Str} {cut : Nat} (h : wholeI ws cut (ws.length + 1) ≠ []) : ∃ k, (wholeF ws cut).getLast? = some k ∧ (wholeI ws cut (ws.length + 1)).getD (-1 + ((wholeI ws cut (ws.length + 1)).length : Int)).toNat 0 = (k : Int) ∧ 0 < (wholeI ws cut (ws.length + 1)).length := by
  have e : wholeI ws cut (ws.length + 1) = (wholeF ws cut).map Int.ofNat := rfl
  rw [e] at h ⊢
  cases hq : (wholeF ws cut).getLast? with
  | none => rw [List.getLast?_eq_none_iff.mp hq] at h; exact absurd rfl h
  | some k =>
    obtain ⟨q, hq2⟩ := List.getLast?_eq_some_iff.mp hq
    refine ⟨k, rfl, ?_, by simp [hq2]⟩
    rw [hq2]
    have : (-1 + (((q ++ [k]).map Int.ofNat).length : Int)).toNat = q.length := by simp; omega
    rw [this]
    simp
theorem due_flag {ws : List Str} {cut : Nat} : decide ((cut : Int) < ((List.range (ws.length + 1)).map fun k => (endsF ws k : Int)).getD (-1 + (((List.range (ws.length + 1)).map fun k => (endsF ws k : Int)).length : Int)).toNat 0) = (dueF ws cut).2 := by
  have e : (-1 + (((List.range (ws.length + 1)).map fun k => (endsF ws k : Int)).length : Int)).toNat = ((ws.length : Nat) : Int).toNat := by rw [List.length_map, List.length_range]; omega
  rw [e, ends_getD (Nat.lt_succ_self _)]
  show _ = decide (cut < endsF ws ws.length)
  exact decide_eq_decide.mpr Int.ofNat_lt
theorem due_some {ws : List Str} {cut k : Nat} (h : (wholeF ws cut).getLast? = some k) : (dueF ws cut).1 = ws.take k := by unfold dueF; rw [h]
theorem due_none {ws : List Str} {cut : Nat} (h : wholeI ws cut (ws.length + 1) = []) : (dueF ws cut).1 = [] := by
  have e : wholeF ws cut = [] := by
    have : (wholeF ws cut).map Int.ofNat = [] := h
    simpa using this
  unfold dueF; rw [e]; rfl
theorem int_eq {a b : Int} {u : Tok} (h : a = b) : Value.int a u = Value.int b u := by rw [h]
theorem ends_int (ws : List Str) (i : Nat) : (1 : Int) + ((ws.take i).map (fun w => ((1 + w.length : Nat) : Int))).sum = (endsF ws i : Int) := by
  have key : ∀ l : List Str, (l.map (fun w => ((1 + w.length : Nat) : Int))).sum = (((l.map (fun w => 1 + w.length)).sum : Nat) : Int) := by
    intro l
    induction l with
    | nil => rfl
    | cons a r ih => rw [List.map_cons, List.map_cons, List.sum_cons, List.sum_cons, ih]; omega
  rw [key, endsF]
  omega
theorem lt_all {l L' W T : Addr} {o : Obj} {news : List (Addr × Obj)} (h : AllLt L' news) (k1 : L' + 1 < W) (k2 : L' + 1 < T) (k3 : l < W) (k4 : l < T) : ∀ q ∈ (l, o) :: news, @LT.lt Nat _ q.1 W ∧ @LT.lt Nat _ q.1 T := by
  intro q hq
  rcases List.mem_cons.mp hq with rfl | hq
  · exact ⟨ltN k3, ltN k4⟩
  · have z := ktn_ltOf h q hq
    exact ⟨Nat.lt_trans z (Nat.lt_of_succ_lt k1), Nat.lt_trans z (Nat.lt_of_succ_lt k2)⟩
theorem item_neg1 {prog : Program} {w : World} {A : Around} {E : Value → Shared → Prop} {s : Shared} {value slice : Expr} {l : Addr} {vs : List Value} {ns : List Int} {u : Tok} {Q : Value → Shared → Prop} (h : ∀ t, Q (.int (ns.getD (-1 + (ns.length : Int)).toNat 0) t) s) (hl : s.heap.IsList l vs.toArray := by exact News.isList (by k_asm) (by k_mem)) (hi : IntsAre vs ns := by assumption) (hp : 0 < ns.length := by first | assumption | (rw [List.length_map, List.length_range]; exact Nat.succ_pos _)) (hs : subscripted slice false (.ref l) (.int (-1) u) = operate [.ref l, .int (-1) u] (getItem (.ref l) (.int (-1) u)) := by with_unfolding_all rfl) (hg : ∀ r, letTemporaryGo value (.ref l) r = pure () := by intro _; with_unfolding_all rfl) : wpAny (model prog w) A (subscriptTail value slice (.ref l) (.int (-1) u)) Q E s :=
  item_list_ints_neg hl hi (by decide) (by omega) (by decide) h hs hg
local macro_rules | `(tactic| walk_at "subscriptTail Name UnaryOp ref int") => `(tactic| first | (k_dflt (refine item_neg1 ?_); intro _) | refine stop_here ?_)
theorem c_due : Wants PySem.Challenge.rw_in0077_01 Mine.K → ∀ (prog : Program) (w : World) (p : Program) (loose : List Str) (mean : ExcName → Option Value) (mg mb : Str → Option Value) (news : List (Addr × Obj)) (l : Addr) (vs : List Value) (ws : List Str) (n : Nat) (cut : Nat) (ct : Tok), TextsAre vs ws → ws.length ≤ 20 → (∀ y ∈ ws, y.length ≤ 255) → cut ≤ 100000 →
  Claim prog w (Mine.K w.params) p loose mean mg mb ((l, listOf vs.toArray n) :: news) 6 80 (call (.ref 814) [.ref l, .int cut ct]) (fun v news' => ∃ T W vs' n', v = .ref T ∧ news' = (T, tupD #[.ref W, .bool (dueF ws cut).2]) :: (W, listOf vs'.toArray n') :: (l, listOf vs.toArray n) :: news ∧ TextsAre vs' (dueF ws cut).1 ∧ ∀ q ∈ (l, listOf vs.toArray n) :: news, @LT.lt Nat _ q.1 W ∧ @LT.lt Nat _ q.1 T) := by
  k_fill
  intro _ prog w p loose mean mg mb news l vs ws n cut ct hvs hws hys hcut dp un gd cn cs a ccd cl outer A₀ base h₀ L m s Q E B F X N T hk hd hu hret
  have hlen : vs.length = ws.length := texts_len hvs
  have hl2 : vs.toArray.size ≤ 1099511627776 := by rw [List.size_toArray, hlen]; omega
  refine wpAny_call ?_
  k_enter
  rename Fr _ _ _ _ => F5
  obtain ⟨m5, F5⟩ : ∃ m5, Fr _ _ _ m5 := ⟨_, F5⟩
  k_steps
  show wpAny _ _ _ _ _ _
  rename Fr _ _ _ _ => F5
  refine LCg.ListComp_U (F₀ := F5) (by with_unfolding_all rfl) (by decide) (by rfl) (by decide) (by rfl) ?_
  k_steps
  show LCg.CompSrc _ _ _ _ _ _ _ _ _ _ _ _ _ _
  rename Fr _ _ _ _ => F6
  rename News _ _ _ _ => N6
  rename IsRange _ _ _ _ _ _ _ _ => rg6
  have hn1 : Builtin.Range.rangeSize 0 ((vs.toArray.size : Int) + 1) 1 = ((ws.length + 1 : Nat) : Int) := by rw [rangeSize_nat, List.size_toArray, hlen]; omega
  have hs1 : Builtin.Range.small 0 ((vs.toArray.size : Int) + 1) 1 = true := by rw [List.size_toArray, hlen]; exact small_one (by omega) (by omega) (by omega) (by omega)
  refine LCg.CompSrc.range (by rfl) F6 N6 rg6 hs1 hn1 (by rw [sizeLine_eq]; omega) fun g => rest_rel (fun i v => ∃ t, v = .int (endsF ws i) t) ?_ ?_
  case refine_1 =>
    clear F6 N6 hn1 hs1
    rintro i v I oI C oC D m₂ ys h tk E' hi ⟨t, hv⟩ hC hx F N off ne
    rw [Int.zero_add] at hv
    subst hv
    dsimp only
    k_steps
    show wpAny _ _ _ _ _ _
    rename Fr _ _ _ _ => F7
    refine LCg.ListComp_U (F₀ := F7) (by with_unfolding_all rfl) (by decide) (by rfl) (by decide) (by rfl) ?_
    k_steps
    show LCg.CompSrc _ _ _ _ _ _ _ _ _ _ _ _ _ _
    rename Fr _ _ _ _ => F8
    rename News _ _ _ _ => N8
    refine LCg.CompSrc.ledger (by rfl) F8 N8 (by k_mem) (by rw [sizeLine_eq, List.size_toArray, List.length_take, hlen]; omega) fun g => rest_rel (fun j v => ∃ z u, ((ws.take i).map (fun w => ((1 + w.length : Nat) : Int)))[j]? = some z ∧ v = .int z u) ?_ ?_
    case refine_1 =>
      clear F8 N8
      rintro j v I2 oI2 C2 oC2 D2 m3 ys2 h2 tk2 E2 hj hv hC2 hx2 F N off2 ne2
      obtain ⟨y, ty, hy, rfl⟩ := texts_at (texts_take i hvs) (by simpa using hv)
      have hy1 := hys y (List.mem_of_mem_take (List.mem_of_getElem? hy))
      have hy2 : y.length ≤ 1099511627776 := Nat.le_trans hy1 (by decide)
      have hy3 : y.length < 2 ^ 62 := Nat.lt_of_le_of_lt hy1 (by decide)
      dsimp only
      k_steps
      rename Fr _ _ _ _ => Fa
      rename News _ _ _ _ => Na
      refine LCg.CompEnd.intro Fa Na _ (fun p hp => hp) off2 (.inr ⟨_, by k_mem, rfl, _, rfl⟩) ⟨rfl, _, _, ?_, rfl⟩
      rw [List.getElem?_map, hy]
      exact congrArg some (by show ((1 + y.length : Nat) : Int) = _; omega)
    case refine_2 =>
      intro ys2 hl2 hr2
      have hi2 := ints_of_rel (by simpa [hlen] using hl2) hr2
      intro D2 h2 tk2 F N o2
      k_steps
      rename Fr _ _ _ _ => Fa
      rename News _ _ _ _ => Na
      refine LCg.CompEnd.intro Fa Na _ (fun p hp => ?_) off trivial ⟨rfl, _, int_eq (ends_int ws i)⟩
      simp only [List.mem_cons] at hp ⊢; rcases hp with h | h | h | h <;> simp [h]
  case refine_2 =>
    clear F6 N6 hn1 hs1
    intro ys hl hr
    have hi := ints_of_rel (zs := (List.range (ws.length + 1)).map fun k => (endsF ws k : Int)) (by simpa using hl) (fun i v hv => by
      obtain ⟨t, rfl⟩ := hr i v hv
      have hlt : i < ws.length + 1 := by rw [← hl]; exact (List.getElem?_eq_some_iff.mp hv).1
      exact ⟨_, t, by rw [List.getElem?_map, List.getElem?_range hlt]; rfl, rfl⟩)
    have hl3 : ys.toArray.size ≤ 1099511627776 := by rw [List.size_toArray, hl]; omega
    intro D2 h2 tk2 F N o2
    refine an5 o2 ?_
    clear o2
    intro n1 n2 n3 n4 n5
    dsimp only at n1 n2 n3 n4
    dsimp only
    k_steps
    show wpAny _ _ _ _ _ _
    rename Fr _ _ _ _ => F6
    refine LCt.Assign_ListComp_T (F₀ := F6) (by rfl) (by with_unfolding_all rfl) (by with_unfolding_all rfl) (by decide) (by rfl) (by decide) (by rfl) (by rfl) (by rfl) ?_
    k_steps
    show LCt.CompSrcT _ _ _ _ _ _ _ _ _ _ _ _ _ _ _
    rename Fr _ _ _ _ => F7
    rename News _ _ _ _ => N7
    rename IsRange _ _ _ _ _ _ _ _ => rg7
    rw [List.length_map, List.length_range] at rg7
    have hn2 : Builtin.Range.rangeSize 0 ((ws.length + 1 : Nat) : Int) 1 = ((ws.length + 1 : Nat) : Int) := by rw [rangeSize_nat]; omega
    have hs2 : Builtin.Range.small 0 ((ws.length + 1 : Nat) : Int) 1 = true := small_one (by omega) (by omega) (by omega) (by omega)
    refine LCt.CompSrcT.range (by rfl) F7 N7 rg7 hs2 hn2 (by rw [sizeLine_eq]; omega) fun g => rest_invT (fun i zs nw => nw = _ ∧ IntsAre zs (wholeI ws cut i)) ?_ ?_ ⟨rfl, .nil⟩
    case refine_1 =>
      clear F7 N7 hn2 hs2
      rintro i v I oI C oC D m₂ zs nw h tk E' hi ⟨t, hv⟩ ⟨hnw, hz⟩ hC hx F N off ne
      subst hnw
      rw [Int.zero_add] at hv
      subst hv
      dsimp only
      k_steps
      case refine'_3.refine_1 => rename _ ≤ _ => hle; rw [ends_getD hi] at hle; exact LCg.CompEnd.intro F N _ (fun p hp => hp) off trivial ⟨rfl, by rw [whole_yes (by omega)]; exact IntsAre.append hz (.cons _ _ .nil)⟩
      case refine'_3.refine_2 => rename ¬ _ ≤ _ => hle; rw [ends_getD hi] at hle; exact LCg.CompEnd.intro F N _ (fun p hp => hp) off trivial ⟨rfl, by rw [whole_no (by omega)]; exact hz⟩
    case refine_2 =>
      clear F7 N7 hn2 hs2 rg7
      rintro zs nw ⟨rfl, hz⟩ D3 h3 tk3 F N o3
      refine an6 o3 ?_
      clear o3
      intro n6 n7 n8 n9 n10 n11
      dsimp only at n6 n7 n8 n9 n10
      have hz3 : zs.toArray.size ≤ 1099511627776 := by
        rw [List.size_toArray, hz.length, wholeI, List.length_map]
        exact Nat.le_trans (List.length_filter_le _ _) (by rw [List.length_range]; omega)
      dsimp only
      k_steps
      case' refine'_4.refine'_5.refine_2.refine'_6.refine'_4 =>
        rename decide (wholeI _ _ _ = []) = false => hw0
        obtain ⟨k, hk1, hk2, hk3⟩ := whole_last (of_decide_eq_false hw0)
        refine stop_go ?_
        k_steps
      all_goals (rename News h₀ _ _ _ => Nz; rename Fr h₀ _ _ _ => Fz; rw [due_flag] at Nz)
      all_goals rename AllLt _ news => la
      all_goals refine hret _ _ _ _ ⟨_, _, _, _, rfl, rfl, ?_, ?_⟩ Fz (news_sub Nz (by walk_at "SUBM"))
      all_goals (first | exact lt_all la (by assumption) (by assumption) (by assumption) (by assumption) | (rw [due_some (by with_reducible assumption)]; exact texts_take _ hvs) | (rename decide (wholeI _ _ _ = []) = true => hw0; rw [due_none (of_decide_eq_true hw0)]; trivial))
end
end
section
local macro_rules | `(tactic| walk_at "exec For") => `(tactic| ((with_reducible rename Fr _ _ _ _ => lF'); (with_unfolding_all refine' For_invVF lF' ?k1 ?k2 ?_; (case k1 => exact rfl); (case k2 => exact rfl); k_whole)))
local macro_rules | `(tactic| walk_at "pyIter ref") => `(tactic| (refine stop_here ?_))
local macro_rules | `(tactic| walk_at "eval ListComp") => `(tactic| (refine stop_here ?_))
local macro_rules | `(tactic| walk_at "subscriptTail") => `(tactic| ((with_reducible show wpAny _ _ (subscriptTail _ _ (Value.ref _) (Value.int (Int.ofNat _) _)) _ _ _); k_dflt (refine itemL ?_); k_whole))
local macro_rules | `(tactic| walk_at "call type:int") => `(tactic| (refine KIN.call_text (by with_reducible assumption) (by with_reducible assumption) ?_))
local macro_rules | `(tactic| walk_at "call builtin:str.join") => `(tactic| (refine joinL ?_; intros))
local macro_rules | `(tactic| walk_at "subscriptTail") => `(tactic| ((with_reducible show wpAny _ _ (subscriptTail _ _ (Value.ref _) (Value.int (Int.fmod _ 2) _)) _ _ _); (with_reducible rename Int.fmod _ 2 = _ => hm9); rw [hm9]))
local macro_rules | `(tactic| walk_at "call builtin:list.append") => `(tactic| (k_dflt (refine appL ?_); k_whole; intros; (try k_sweep)))
section
local macro_rules | `(tactic| walk_at "pad") => `(tactic| skip)
noncomputable def signsF : List Str := [Str.ofString "a", Str.ofString "b", Str.ofString " ", Str.ofString "'", Str.ofString "\"", Str.ofString "\\", Str.ofString "#", Str.ofString "é", Str.ofString "\n", Str.ofString ""]
noncomputable def wordOf (tx : Str) : Str := Txt.join (Str.ofString "") (tx.cps.toList.map fun c => signsF.getD (c - 48) (Str.ofString ""))
noncomputable def figT (x : Int) : Str := Str.ofString (toString ((if x.fdiv 2 < 0 then -x.fdiv 2 else x.fdiv 2).fmod 1000))
noncomputable def picks (x : Int) : List Str := (figT x).cps.toList.map fun c => signsF.getD (c - 48) (Str.ofString "")
noncomputable def rowsStep (r : List Str × List Str) (x : Int) : List Str × List Str :=
  if Int.fmod x 2 = 0 then (if r.1.any (· == wordOf (figT x)) then r else (r.1 ++ [wordOf (figT x)], r.2)) else (if r.2.any (· == wordOf (figT x)) then r else (r.1, r.2 ++ [wordOf (figT x)]))
noncomputable def rowsF (ns : List Int) : List Str × List Str := ns.foldl rowsStep ([Str.ofString "a b", Str.ofString "it's", Str.ofString "", Str.ofString "é"], [Str.ofString "a b", Str.ofString "#x", Str.ofString ""])
theorem fig_all (m : Nat) (hm : m < 1000) : (Str.ofString (toString (Int.ofNat m))).cps.size ≤ 3 ∧ ∀ c ∈ (Str.ofString (toString (Int.ofNat m))).cps.toList, 48 ≤ c ∧ c < 58 := by
  have e : (Str.ofString (toString (Int.ofNat m))).cps.toList = (Nat.toDigits 10 m).map Char.toNat := KIN.signs_num m
  rw [← Array.length_toList, e, List.length_map]
  refine ⟨digits10_le (by decide) hm, fun c hc => ?_⟩
  obtain ⟨ch, hch, rfl⟩ := List.mem_map.mp hc
  have := digit_range (Nat.isDigit_of_mem_toDigits (by decide) (by decide) hch)
  omega
theorem figT_nat (x : Int) : ∃ m < 1000, figT x = Str.ofString (toString (Int.ofNat m)) := by
  refine ⟨((if x.fdiv 2 < 0 then -x.fdiv 2 else x.fdiv 2).fmod 1000).toNat, ?_, ?_⟩
  · have := Int.fmod_lt_of_pos (if x.fdiv 2 < 0 then -x.fdiv 2 else x.fdiv 2) (b := 1000) (by decide)
    omega
  · have h := Int.fmod_nonneg_of_pos (if x.fdiv 2 < 0 then -x.fdiv 2 else x.fdiv 2) (b := 1000) (by decide)
    rw [show Int.ofNat ((if x.fdiv 2 < 0 then -x.fdiv 2 else x.fdiv 2).fmod 1000).toNat = (if x.fdiv 2 < 0 then -x.fdiv 2 else x.fdiv 2).fmod 1000 from Int.toNat_of_nonneg h]
    rfl
theorem figT_len (x : Int) : (figT x).cps.size ≤ 3 := by
  obtain ⟨m, hm, e⟩ := figT_nat x
  rw [e]; exact (fig_all m hm).1
theorem digit_text : ∀ c < 58, 48 ≤ c → PySem.intText? (⟨#[c]⟩ : Str) = some (Int.ofNat (c - 48)) := by decide +kernel
theorem fig_facts {x : Int} {i c : Nat} (h : (figT x).cps[i]? = some c) : PySem.intText? (⟨#[c]⟩ : Str) = some (Int.ofNat (c - 48)) ∧ (⟨#[c]⟩ : Str).length ≤ 640 ∧ Int.ofNat (c - 48) < 2 ^ 63 ∧ c - 48 < 10 := by
  obtain ⟨m, hm, e⟩ := figT_nat x
  rw [e] at h
  have hc := (fig_all m hm).2 c (by rw [← Array.getElem?_toList] at h; exact List.mem_of_getElem? h)
  exact ⟨digit_text c hc.2 hc.1, by show 1 ≤ 640; decide, by show ((c - 48 : Nat) : Int) < _; omega, by omega⟩
theorem pick_at {vs : List Value} (h : TextsAre vs signsF) (hl : vs.length = 10) {k : Nat} (hk : k < 10) : ∃ t, vs[(Int.ofNat k).toNat]? = some (.str (signsF.getD k (Str.ofString "")) t) := by
  obtain ⟨y, t, h1, h2⟩ := texts_at h (List.getElem?_eq_getElem (show k < vs.length by omega))
  refine ⟨t, ?_⟩
  rw [show (Int.ofNat k).toNat = k from rfl, List.getElem?_eq_getElem (show k < vs.length by omega), h2, List.getD_eq_getElem?_getD, h1]
  rfl
noncomputable abbrev rowsM (R : Addr) (m6 : Str → Option Value) : Str → Option Value := fun y => if y = Str.ofString "rows" then some (.ref R) else m6 y
theorem with_rows {P : Prop} {h₀ h : Heap} {L R B1 A1 S cS : Addr} {oR ob oa oc : Obj} {vS : List Value} {rest : List (Addr × Obj)} (N : News h₀ L h ((R, oR) :: (B1, ob) :: (A1, oa) :: (S, listOf vS.toArray 0) :: (cS, oc) :: rest))
    (hS : TextsAre vS signsF) (hl : vS.length = 10) (k : ∀ vS', TextsAre vS' signsF → vS'.length = 10 → News h₀ L h ((R, oR) :: (B1, ob) :: (A1, oa) :: (S, listOf vS'.toArray 0) :: (cS, oc) :: rest) → P) : P := k _ hS hl N
theorem picks_are {x : Int} {ys : List Value} (hl : ys.length = (figT x).cps.size) (hr : ∀ (i : Nat) v, ys[i]? = some v → ∃ c u, (figT x).cps[i]? = some c ∧ v = .str (signsF.getD (c - 48) (Str.ofString "")) u) : StrsAre ys (picks x) :=
  strs_of_rel (by simpa [picks] using hl) fun i v hv => by
    obtain ⟨c, u, h1, h2⟩ := hr i v hv
    refine ⟨_, u, ?_, h2⟩
    rw [picks, List.getElem?_map, Array.getElem?_toList, h1]
    rfl
theorem signs_len : ∀ k, (signsF.getD k (Str.ofString "")).length ≤ 1 := by
  intro k
  rcases Nat.lt_or_ge k 10 with h | h
  · revert k; decide +kernel
  · rw [List.getD_eq_getElem?_getD, List.getElem?_eq_none (by show 10 ≤ k; exact h)]; decide
theorem picks_len (x : Int) : ((picks x).map (·.length)).sum + (picks x).length * (Str.ofString "").length ≤ 16777216 := by
  have key : ∀ l : List Nat, ((l.map fun c => signsF.getD (c - 48) (Str.ofString "")).map (·.length)).sum ≤ l.length := by
    intro l
    induction l with
    | nil => exact Nat.le_refl _
    | cons c r ih =>
      have := signs_len (c - 48)
      simp only [List.map_cons, List.sum_cons, List.length_cons] at ih ⊢
      omega
  have h1 := key (figT x).cps.toList
  have h2 : (figT x).cps.toList.length ≤ 3 := figT_len x
  have h3 : (Str.ofString "").length = 0 := by decide
  rw [h3, Nat.mul_zero]
  exact Nat.le_trans h1 (Nat.le_trans h2 (by decide))
theorem fmod2 (x : Int) : x.fmod 2 = 0 ∨ x.fmod 2 = 1 := by
  have h1 := Int.fmod_lt_of_pos x (b := 2) (by decide)
  have h2 := Int.fmod_nonneg_of_pos x (b := 2) (by decide)
  omega
inductive rowsJ (ns : List Int) (R B1 A1 S c l : Addr) (oS oV oL : Obj) (news : List (Addr × Obj)) (i : Nat) : (Str → Option Value) → List (Addr × Obj) → Prop
  | mk (m6 : Str → Option Value) (va vb : List Value) (na nb : Nat) : TextsAre va (rowsF (ns.take i)).1 → TextsAre vb (rowsF (ns.take i)).2 → va.length ≤ i + 4 → vb.length ≤ i + 3 →
    rowsJ ns R B1 A1 S c l oS oV oL news i (rowsM R m6) ((R, listOf #[.ref A1, .ref B1] 0) :: (B1, listOf (List.toArray vb) nb) :: (A1, listOf (List.toArray va) na) :: (S, oV) :: (c, oS) :: (l, oL) :: news)
@[elab_as_elim] theorem ints_elim {vs : List Value} {ns : List Int} {i : Nat} {v : Value} {P : Value → Prop} (hvs : IntsAre vs ns) (hv : vs[i]? = some v) (k : ∀ x tx, ns[i]? = some x → P (.int x tx)) : P v := by
  obtain ⟨x, tx, hx, rfl⟩ := ints_at hvs hv
  exact k x tx hx
theorem rowsF_step {ns : List Int} {i : Nat} {x : Int} (hx : ns[i]? = some x) : rowsF (ns.take (i + 1)) = rowsStep (rowsF (ns.take i)) x := by
  rw [List.take_add_one, hx]; simp [rowsF]
theorem step00 {r : List Str × List Str} {x : Int} (hm : x.fmod 2 = 0) (h : (r.1.any fun y => y == Txt.join (Str.ofString "") (picks x)) = true) : rowsStep r x = r := by
  unfold rowsStep; rw [if_pos hm]; exact if_pos h
theorem step01 {r : List Str × List Str} {x : Int} (hm : x.fmod 2 = 0) (h : (r.1.any fun y => y == Txt.join (Str.ofString "") (picks x)) = false) : rowsStep r x = (r.1 ++ [Txt.join (Str.ofString "") (picks x)], r.2) := by
  unfold rowsStep; rw [if_pos hm]; exact if_neg (by rw [show (r.1.any fun y => y == wordOf (figT x)) = false from h]; decide)
theorem step10 {r : List Str × List Str} {x : Int} (hm : x.fmod 2 = 1) (h : (r.2.any fun y => y == Txt.join (Str.ofString "") (picks x)) = true) : rowsStep r x = r := by
  unfold rowsStep; rw [if_neg (by omega)]; exact if_pos h
theorem step11 {r : List Str × List Str} {x : Int} (hm : x.fmod 2 = 1) (h : (r.2.any fun y => y == Txt.join (Str.ofString "") (picks x)) = false) : rowsStep r x = (r.1, r.2 ++ [Txt.join (Str.ofString "") (picks x)]) := by
  unfold rowsStep; rw [if_neg (by omega)]; exact if_neg (by rw [show (r.2.any fun y => y == wordOf (figT x)) = false from h]; decide)
theorem rows_end {g h : Heap} {L R B1 A1 S c l I D : Addr} {wv xv : Option Value} {m6 : Str → Option Value} {oS oV oL dl it : Obj} {va vb : List Value} {na nb i tk : Nat} {ns : List Int} {news : List (Addr × Obj)} {s : Shared}
    (F : Fr g L h (fun y => if y = Str.ofString "word" then wv else if y = Str.ofString "x" then xv else rowsM R m6 y))
    (N : News g L h ((D, dl) :: (I, it) :: (R, listOf #[.ref A1, .ref B1] 0) :: (B1, listOf (List.toArray vb) nb) :: (A1, listOf (List.toArray va) na) :: (S, oV) :: (c, oS) :: (l, oL) :: news))
    (i1 : @Ne Nat R I) (i2 : @Ne Nat B1 I) (i3 : @Ne Nat A1 I) (i4 : @Ne Nat S I) (i5 : @Ne Nat c I) (i6 : @Ne Nat l I) (i7 : ∀ p ∈ news, @Ne Nat p.1 I)
    (ha : TextsAre va (rowsF (ns.take (i + 1))).1) (hb : TextsAre vb (rowsF (ns.take (i + 1))).2) (hla : va.length ≤ i + 1 + 4) (hlb : vb.length ≤ i + 1 + 3) :
    TurnEnd g L s I it (rowsJ ns R B1 A1 S c l oS oV oL news (i + 1)) .next { s with heap := h, toks := tk } := by
  refine ⟨rfl, h, tk, rowsM R fun y => if y = Str.ofString "word" then wv else if y = Str.ofString "x" then xv else m6 y, (R, listOf #[.ref A1, .ref B1] 0) :: (B1, listOf (List.toArray vb) nb) :: (A1, listOf (List.toArray va) na) :: (S, oV) :: (c, oS) :: (l, oL) :: news, rfl, fr_eq F ?_, news_tl N, ?_, .mk _ va vb na nb ha hb hla hlb⟩
  · funext y
    simp only [rowsM]
    by_cases e : y = Str.ofString "rows"
    · subst e; rfl
    · rw [if_neg e, if_neg e]
  · exact List.forall_mem_cons.mpr ⟨i1, List.forall_mem_cons.mpr ⟨i2, List.forall_mem_cons.mpr ⟨i3, List.forall_mem_cons.mpr ⟨i4, List.forall_mem_cons.mpr ⟨i5, List.forall_mem_cons.mpr ⟨i6, i7⟩⟩⟩⟩⟩⟩
theorem c_rows : Wants PySem.Challenge.rw_in0077_01 Mine.K → ∀ (prog : Program) (w : World) (p : Program) (loose : List Str) (mean : ExcName → Option Value) (mg mb : Str → Option Value) (news : List (Addr × Obj)) (l : Addr) (vs : List Value) (ns : List Int) (n : Nat), IntsAre vs ns → ns.length ≤ 6 →
  Claim prog w (Mine.K w.params) p loose mean mg mb ((l, listOf vs.toArray n) :: news) 6 80 (call (.ref 785) [.ref l]) (fun v news' => ∃ R B1 A1 va vb na nb, v = .ref R ∧ TextsAre va (rowsF ns).1 ∧ TextsAre vb (rowsF ns).2 ∧ news' = (R, listOf #[.ref A1, .ref B1] 0) :: (B1, listOf (List.toArray vb) nb) :: (A1, listOf (List.toArray va) na) :: (l, listOf vs.toArray n) :: news) := by
  k_fill
  intro _ prog w p loose mean mg mb news l vs ns n hvs hns dp un gd cn cs a ccd cl outer A₀ base h₀ L m s Q E B F X N T hk hd hu hret
  have hlen : vs.length = ns.length := hvs.length
  have hl2 : vs.toArray.size ≤ 1099511627776 := by rw [List.size_toArray, hlen]; omega
  refine wpAny_call ?_
  k_enter
  k_steps
  show wpAny _ _ _ _ _ _
  rename Fr _ _ _ _ => F9
  rename News _ _ _ _ => N9
  rename IntsAre vs ns => hvs
  replace F9 : Fr _ _ _ (rowsM _ _) := F9
  refine with_rows N9 (.cons' (.cons' (.cons' (.cons' (.cons' (.cons' (.cons' (.cons' (.cons' (.cons' .nil')))))))))) rfl ?_
  clear N9
  intro signsV hsV hsl N9
  refine' loop_list (vs := vs) (nl := n) (rowsJ ns ?yR ?yB ?yA ?yS ?yc l ?yo (listOf signsV.toArray 0) (listOf vs.toArray n) news) rfl F9 N9 ?h0 ?h1 ?h2 ?h3
  case h0 => refine .mk _ _ _ _ _ ?_ ?_ ?_ ?_; exact .cons' (.cons' (.cons' (.cons' .nil'))); exact .cons' (.cons' (.cons' .nil')); exact Nat.le_refl _; exact Nat.le_refl _
  case h1 => intro i m₁ news₁ hJ; induction hJ; simp
  case h2 =>
    clear F9 N9
    intro i v m₁ news₁ h tk I it hv hJ
    induction hJ
    rename_i m6 va vb na nb ha hb hla hlb
    refine ints_elim hvs hv ?_
    clear hv
    intro x tx hx hI F1 N1
    dsimp only
    k_steps
    show wpAny _ _ _ _ _ _
    rename Fr _ _ _ _ => F5
    refine comp_textD (figT x) F5 rfl (by with_unfolding_all rfl) (by decide) (by rfl) (by decide) (by rfl) ?_
    k_steps
    rename Fr _ _ _ _ => F5
    rename News _ _ _ _ => N5
    refine ⟨_, _, rfl, F5, N5, ?_, fun g => rest_rel (fun i v => ∃ c u, (figT x).cps[i]? = some c ∧ v = .str (signsF.getD (c - 48) (Str.ofString "")) u) ?_ ?_⟩
    case refine_1 => exact Nat.le_trans (figT_len x) (by rw [sizeLine_eq]; decide)
    case refine_2 =>
      clear F5 N5
      rintro j v I2 oI2 C oC D m₂ ys h2 tk2 E' hj ⟨c, u, hc, rfl⟩ hC hx2 F N off ne
      refine an4 (fig_facts hc) ?_
      intro hc1 hc2 hc3 hc4
      obtain ⟨sg, hsg⟩ := pick_at hsV hsl hc4
      dsimp only
      k_steps
      exact LCg.CompEnd.intro F N _ (fun p hp => hp) off trivial ⟨rfl, c, _, hc, rfl⟩
    case refine_3 =>
      intro ys hl hr D h2 tk2 F N o1
      have hys : StrsAre ys (picks x) := picks_are hl hr
      have hyo := picks_len x
      have ha' := texts_strs ha
      have hb' := texts_strs hb
      refine an8 o1 ?_
      clear o1
      intro o2 o3 o4 o5 o6 o7 o8 o9
      dsimp only at o2 o3 o4 o5 o6 o7 o8
      simp only [List.forall_mem_cons] at hI
      refine an7 hI ?_
      clear hI
      intro i1 i2 i3 i4 i5 i6 i7
      have hza : va.toArray.size ≤ sizeLine := by rw [sizeLine_eq, List.size_toArray]; have := (List.getElem?_eq_some_iff.mp hx).1; omega
      have hzb : vb.toArray.size ≤ sizeLine := by rw [sizeLine_eq, List.size_toArray]; have := (List.getElem?_eq_some_iff.mp hx).1; omega
      clear F5 N5
      rcases fmod2 x with hm | hm
      case inl =>
        k_steps
        all_goals (with_reducible rename Int.fmod _ 2 = _ => hm; with_reducible rename Fr _ _ _ _ => F7; with_reducible rename News _ _ _ _ => N7; with_reducible rename List.any _ _ = _ => ha9)
        ·
          exact rows_end F7 N7 i1 i2 i3 i4 i5 i6 i7 (by rw [rowsF_step hx, step00 hm ha9]; exact ha) (by rw [rowsF_step hx, step00 hm ha9]; exact hb) (by omega) (by omega)
        all_goals (rw [List.push_toArray] at N7; exact rows_end F7 N7 i1 i2 i3 i4 i5 i6 i7 (by rw [rowsF_step hx, step01 hm ha9]; exact ha.snoc ⟨_, rfl⟩) (by rw [rowsF_step hx, step01 hm ha9]; exact hb) (by rw [List.length_append, List.length_singleton]; omega) (by omega))
      case inr =>
        k_steps
        all_goals (with_reducible rename Int.fmod _ 2 = _ => hm; with_reducible rename Fr _ _ _ _ => F7; with_reducible rename News _ _ _ _ => N7; with_reducible rename List.any _ _ = _ => ha9)
        ·
          exact rows_end F7 N7 i1 i2 i3 i4 i5 i6 i7 (by rw [rowsF_step hx, step10 hm ha9]; exact ha) (by rw [rowsF_step hx, step10 hm ha9]; exact hb) (by omega) (by omega)
        all_goals (rw [List.push_toArray] at N7; exact rows_end F7 N7 i1 i2 i3 i4 i5 i6 i7 (by rw [rowsF_step hx, step11 hm ha9]; exact ha) (by rw [rowsF_step hx, step11 hm ha9]; exact hb.snoc ⟨_, rfl⟩) (by omega) (by rw [List.length_append, List.length_singleton]; omega))
  case h3 =>
    clear F9 N9
    intro m₁ news₁ h tk hJ
    induction hJ
    rename_i m6 va vb na nb ha hb hla hlb
    intro F1 N1
    k_steps
    rename News h₀ _ _ _ => Nz
    rename Fr h₀ _ _ _ => Fz
    rw [hlen, List.take_length] at ha hb
    exact hret _ _ _ _ ⟨_, _, _, _, _, _, _, rfl, ha, hb, rfl⟩ Fz (news_sub Nz (by walk_at "SUBM"))
end
end
section
local macro_rules | `(tactic| walk_at "eval ListComp") => `(tactic| (refine stop_here ?_))
local macro_rules | `(tactic| walk_at "CompSrc") => `(tactic| (refine stop_here ?_))
local macro_rules | `(tactic| walk_at "call builtin:str.split") => `(tactic| (refine splL ?_; intros; rename_i l1; (try k_lt l1)))
local macro_rules | `(tactic| walk_at "call builtin:str.join") => `(tactic| (refine joinL ?_; intros))
noncomputable def badCh (c : Nat) : Bool := !(decide ((c : Int) < 128) && Txt.isalnum ⟨#[c]⟩) && (Builtin.Str.occurrences (Str.ofString "_@%+=:,./-") ⟨#[c]⟩ 0 (Str.ofString "_@%+=:,./-").length 1).isEmpty
noncomputable def signB (y : Str) : List Str := (y.cps.toList.filter badCh).map fun c => ⟨#[c]⟩
noncomputable def spellQ (y : Str) : Str := Str.ofString "'" ++ Txt.join (Str.ofString "'\"'\"'") (Txt.split y (Str.ofString "'")) ++ Str.ofString "'"
noncomputable def spellF (y : Str) : Str := if y = Str.ofString "" then spellQ y else if signB y = [] then y else spellQ y
theorem spell_q {y : Str} (h : y = Str.ofString "" ∨ signB y ≠ []) : spellF y = spellQ y := by
  unfold spellF
  by_cases e : y = Str.ofString ""
  · rw [if_pos e]
  · rw [if_neg e, if_neg (h.resolve_left e)]
theorem spell_y {y : Str} (h : y ≠ Str.ofString "") (h2 : signB y = []) : spellF y = y := by
  unfold spellF
  rw [if_neg h, if_pos h2]
noncomputable def signI (y : Str) (i : Nat) : List Str := ((y.cps.toList.take i).filter badCh).map fun c => ⟨#[c]⟩
theorem sign_yes {y : Str} {i c : Nat} (hc : y.cps[i]? = some c) (h : badCh c = true) : signI y (i + 1) = signI y i ++ [⟨#[c]⟩] := by
  rw [← Array.getElem?_toList] at hc
  simp [signI, List.take_add_one, hc, List.filter_append, h]
theorem sign_no {y : Str} {i c : Nat} (hc : y.cps[i]? = some c) (h : badCh c = false) : signI y (i + 1) = signI y i := by
  rw [← Array.getElem?_toList] at hc
  simp [signI, List.take_add_one, hc, List.filter_append, h]
theorem bad1 {c : Nat} (h1 : (c : Int) < 128) (h2 : Txt.isalnum ⟨#[c]⟩ = true) : badCh c = false := by unfold badCh; rw [h2, decide_eq_true h1]; rfl
theorem bad2 {c : Nat} (h2 : Txt.isalnum ⟨#[c]⟩ = false) (h3 : (Builtin.Str.occurrences (Str.ofString "_@%+=:,./-") ⟨#[c]⟩ 0 (Str.ofString "_@%+=:,./-").length 1).isEmpty = true) : badCh c = true := by unfold badCh; rw [h2, h3, Bool.and_false]; rfl
theorem bad3 {c : Nat} (h3 : (Builtin.Str.occurrences (Str.ofString "_@%+=:,./-") ⟨#[c]⟩ 0 (Str.ofString "_@%+=:,./-").length 1).isEmpty = false) : badCh c = false := by unfold badCh; rw [h3, Bool.and_false]
theorem bad4 {c : Nat} (h1 : ¬ (c : Int) < 128) (h3 : (Builtin.Str.occurrences (Str.ofString "_@%+=:,./-") ⟨#[c]⟩ 0 (Str.ofString "_@%+=:,./-").length 1).isEmpty = true) : badCh c = true := by unfold badCh; rw [h3, decide_eq_false h1]; rfl
theorem strs_snoc : ∀ {vs : List Value} {ws : List Str} {w : Str} {t : Tok}, StrsAre vs ws → StrsAre (vs ++ [.str w t]) (ws ++ [w])
  | _, _, _, t, .nil => .cons _ t .nil
  | _, _, _, _, .cons y t r => .cons y t (strs_snoc r)
theorem strs_dat {news : List (Addr × Obj)} : ∀ {vs : List Value} {ws : List Str}, StrsAre vs ws → DatAll news vs (ws.map Dat.str)
  | _, _, .nil => .nil
  | _, _, .cons y t r => .cons (.str y t) (strs_dat r)
theorem one_ok : ∀ c < 256, PyData.strOk ⟨#[c]⟩ = true := by decide +kernel
theorem sign_ok {y : Str} (h : ∀ c ∈ y.cps.toList, c < 256) : ∀ d ∈ (signB y).map Dat.str, kqdOk 8 d = true := by
  intro d hd
  simp only [signB, List.mem_map, List.mem_filter] at hd
  obtain ⟨_, ⟨c, ⟨hc, _⟩, rfl⟩, rfl⟩ := hd
  exact one_ok c (h c hc)
theorem c_spell : Wants PySem.Challenge.rw_in0077_01 Mine.K → ∀ (prog : Program) (w : World) (p : Program) (loose : List Str) (mean : ExcName → Option Value) (mg mb : Str → Option Value) (news : List (Addr × Obj)) (l : Addr) (vs : List Value) (ws : List Str) (n : Nat), TextsAre vs ws → ws.length ≤ 20 → (∀ y ∈ ws, y.length ≤ 30 ∧ ∀ c ∈ y.cps.toList, c < 256) → (∀ y ∈ ws, ((Txt.split y (Str.ofString "'")).map (·.length)).sum + (Txt.split y (Str.ofString "'")).length * (Str.ofString "'\"'\"'").length ≤ 16777216 ∧ (Txt.join (Str.ofString "'\"'\"'") (Txt.split y (Str.ofString "'"))).length ≤ 1000) → ((ws.map spellF).map (·.length)).sum + (ws.map spellF).length * (Str.ofString " ").length ≤ 16777216 →
  Claim prog w (Mine.K w.params) p loose mean mg mb ((l, listOf vs.toArray n) :: news) 6 80 (call (.ref 790) [.ref l]) (fun v news' => ∃ t, v = .str (Txt.join (Str.ofString " ") (ws.map spellF)) t ∧ news' = (l, listOf vs.toArray n) :: news) := by
  k_fill
  intro _ prog w p loose mean mg mb news l vs ws n hvs hws hys hsp hjn dp un gd cn cs a ccd cl outer A₀ base h₀ L m s Q E B F X N T hk hd hu hret
  have hlen : vs.length = ws.length := texts_len hvs
  have hl2 : vs.toArray.size ≤ 1099511627776 := by rw [List.size_toArray, hlen]; omega
  walk_at "ENTER"
  rename Fr _ _ _ (fun y => List.lookup y _) => F5
  replace F5 := fr_one F5 (show _ = [(Str.ofString "terms", Value.ref l)] by kernel_rfl)
  k_steps
  show wpAny _ _ _ _ _ _
  rename Fr _ _ _ _ => F5
  refine LCg.ListComp_U (F₀ := F5) (by with_unfolding_all rfl) (by decide) (by rfl) (by decide) (by rfl) ?_
  k_steps
  show LCg.CompSrc _ _ _ _ _ _ _ _ _ _ _ _ _ _
  rename Fr _ _ _ _ => F6
  rename News _ _ _ _ => N6
  refine LCg.CompSrc.ledger (by rfl) F6 N6 (by k_mem) (by rw [sizeLine_eq, List.size_toArray, hlen]; omega) fun g => rest_rel (fun j v => ∃ z u, (ws.map spellF)[j]? = some z ∧ v = .str z u) ?_ ?_
  case refine_1 =>
    clear F6 N6
    rintro j v I2 oI2 C2 oC2 D2 m3 ys2 h2 tk2 E2 hj hv hC2 hx2 F N off2 ne2
    obtain ⟨y, ty, hy, rfl⟩ := texts_at hvs (by simpa using hv)
    have hy1 := (hys y (List.mem_of_getElem? hy)).1
    have hy2 : y.length ≤ 1099511627776 := Nat.le_trans hy1 (by decide)
    have hy3 : y.length < 2 ^ 62 := Nat.lt_of_le_of_lt hy1 (by decide)
    obtain ⟨hy4, hy5⟩ := hsp y (List.mem_of_getElem? hy)
    dsimp only
    k_steps
    case refine_1 =>
      show wpAny _ _ _ _ _ _
      with_reducible rename (_ != _) = true => hne
      with_reducible rename Fr _ _ _ _ => F5
      refine comp_textT y F5 rfl (by with_unfolding_all rfl) (by decide) (by rfl) (by decide) (by rfl) ?_
      k_steps
      with_reducible rename Fr _ _ _ _ => F5
      with_reducible rename News _ _ _ _ => N5
      refine ⟨_, _, rfl, F5, N5, ?_, fun g => rest_invT (fun i zs nw => nw = _ ∧ StrsAre zs (signI y i)) ?_ ?_ ⟨rfl, .nil⟩⟩
      case refine_1 => rw [sizeLine_eq]; exact Nat.le_trans hy1 (by decide)
      case refine_2 =>
        clear F5 N5
        rintro i v I oI C oC D m₂ zs nw h tk E' hi ⟨c, u, hc, rfl⟩ ⟨hnw, hz⟩ hC hx F N off ne
        subst hnw
        dsimp only
        k_steps
        all_goals (refine LCg.CompEnd.intro F N _ (fun p hp => hp) off trivial ⟨rfl, ?_⟩)
        all_goals (with_reducible first
          | (rw [sign_no hc (by first | exact bad1 (by assumption) (by assumption) | exact bad3 (by assumption))]; exact hz)
          | (rw [sign_yes hc (by first | exact bad2 (by assumption) (by assumption) | exact bad4 (by assumption) (by assumption))]; exact strs_snoc hz))
      case refine_3 =>
        clear F5 N5
        rintro zs nw ⟨rfl, hz⟩ D h tk F N o2
        have hzD : DatAll [] zs ((signB y).map Dat.str) := strs_dat (by have e : signI y y.cps.size = signB y := (by unfold signI signB; rw [List.take_of_length_le (Nat.le_of_eq (by simp))]); rw [← e]; exact hz)
        have hzO : ∀ d ∈ (signB y).map Dat.str, kqdOk 8 d = true := sign_ok (fun c hc => (hys y (List.mem_of_getElem? hy)).2 c hc)
        dsimp only
        k_steps
        all_goals (with_reducible rename Fr _ _ _ _ => F5; with_reducible rename News _ _ _ _ => N5; with_reducible rename decide (_ = []) = _ => hd9)
        all_goals (refine LCg.CompEnd.intro F5 N5 _ (by walk_at "SUBM") off2 (.inr ⟨_, by k_mem, rfl, _, rfl⟩) ⟨rfl, _, _, ?_, rfl⟩; rw [List.getElem?_map, hy])
        all_goals (first
          | exact congrArg some (spell_y (by simpa using hne) (List.map_eq_nil_iff.mp (of_decide_eq_true hd9)))
          | exact congrArg some (spell_q (.inr fun e => of_decide_eq_false hd9 (by rw [e]; rfl))))
    case refine_2 =>
      with_reducible rename (_ != _) = false => hne
      with_reducible rename Fr _ _ _ _ => F5
      with_reducible rename News _ _ _ _ => N5
      exact LCg.CompEnd.intro F5 N5 _ (by walk_at "SUBM") off2 (.inr ⟨_, by k_mem, rfl, _, rfl⟩) ⟨rfl, _, _, by rw [List.getElem?_map, hy]; exact congrArg some (spell_q (.inl (by simpa using hne))), rfl⟩
  case refine_2 =>
    clear F6 N6
    intro ys hl hr D h tk F N o1
    have hys : StrsAre ys (ws.map spellF) := strs_of_rel (by rw [hl, List.size_toArray, hlen, List.length_map]) hr
    simp only [LCg.Off1] at o1
    dsimp only
    k_steps
    rename News h₀ _ _ _ => Nz
    rename Fr h₀ _ _ _ => Fz
    exact hret _ _ _ _ ⟨_, rfl, rfl⟩ Fz (news_tl Nz)
noncomputable def ExcObj (o : Obj) (X : String) (tb ctx : Value) : Prop := o.cls = .type X ∧ ∃ t, o.data = .fields #[t, tb, ctx, .none, .bool false, .none]
noncomputable def TbObj (o : Obj) (fl : Value) : Prop := ∃ ts, o.data = .fields ts ∧ ts[3]? = some fl
structure NewX (h h' : Heap) (e : Addr) (X : String) (ctx : Value) : Prop where
  keeps : ∀ b o, h.get? b = some o → h'.get? b = some o
  new : h.get? e = none
  there : ∃ ob, h'.get? e = some ob ∧ ExcObj ob X .none ctx
theorem NewX.of {h h' : Heap} {e : Addr} {X : String} (x : Heap.NewExc h h' e X) : NewX h h' e X .none := by
  obtain ⟨k, n, ob, t, he, hc, hd⟩ := x
  exact ⟨k, n, ob, he, hc, t, hd⟩
theorem newX_news {h h' : Heap} {e : Addr} {X : String} {g : Heap} {L : Addr} {m : Str → Option Value} {news : List (Addr × Obj)} {ctx : Value} (x : NewX h h' e X ctx) (F : Fr g L h m) (N : News g L h news) : Fr g L h' m ∧ News g L h' news := ⟨F.keeps x.keeps, N.grown x.keeps⟩
theorem ExcObj.set1 {o : Obj} {X : String} {tb ctx v : Value} (x : ExcObj o X tb ctx) : ExcObj (o.mapFields (·.setIfInBounds 1 v)) X v ctx := by
  obtain ⟨hc, t, hd⟩ := x
  exact ⟨(Obj.cls_mapFields _ _).trans hc, t, Obj.data_mapFields hd _⟩
theorem ExcObj.set2 {o : Obj} {X : String} {tb ctx v : Value} (x : ExcObj o X tb ctx) : ExcObj (o.mapFields (·.setIfInBounds 2 v)) X tb v := by
  obtain ⟨hc, t, hd⟩ := x
  exact ⟨(Obj.cls_mapFields _ _).trans hc, t, Obj.data_mapFields hd _⟩
theorem TbObj.set {o : Obj} {fl v : Value} (x : TbObj o fl) : TbObj (o.mapFields (·.setIfInBounds 3 v)) v := by
  obtain ⟨ts, hd, h3⟩ := x
  have hsz : 3 < ts.size := (Array.getElem?_eq_some_iff.mp h3).1
  exact ⟨_, Obj.data_mapFields hd _, by simp [hsz]⟩
section
variable {prog : Program} {w : World} {A₀ A : Around} {E : Value → Shared → Prop} {s' : Shared} {base g g₀ h : Heap} {outer : List Env} {L a e T : Addr} {oe oT : Obj} {m : Str → Option Value} {name : Str} {scope : Scope} {cd : Value}
  {KX : Frag} {p : Program} {loose : List Str} {mean : ExcName → Option Value} {mg mb : Str → Option Value} {news : List (Addr × Obj)} {X : String} {ctx fl : Value}
theorem note_first {M : Model} {Q : Unit → Shared → Prop} (K : Below A₀ base outer g) (F : Fr g L h m) (N : News g L h news) (x : NewX h s'.heap e X ctx) (XB : KX.In base) (TB : Top p loose mean mg mb base)
    (D : KtsDicts (outer.filterMap (·.frame)) g) (T0 : KtsTurn (outer.filterMap (·.frame)) g₀ g) (hA : A.frames = (A₀.deeper (envOf name scope L a cd)).frames)
    (k : ∀ h' g' T oe oT, KtsTurn (outer.filterMap (·.frame)) g₀ g' → Fr g' L h' m → News g' L h' ((e, oe) :: (T, oT) :: news) → ExcObj oe X (.ref T) ctx → TbObj oT (rawInt L) → @Ne Nat T e → (∀ q ∈ news, @Ne Nat q.1 T) → (∀ q ∈ news, @Ne Nat q.1 e) →
      Below A₀ base outer g' → KX.In g' → Top p loose mean mg mb g' → KtsDicts (outer.filterMap (·.frame)) g' → Q () { s' with heap := h' })
    (hk : scope.kind = .function := by rfl) : wpAny M A (noteFrame (.ref e) (envOf name scope L a cd)) Q E s' := by
  have K' := K.push (name := name) (a := a) (cd := cd) F hk
  have hin : ∀ env ∈ (envOf name scope L a cd :: outer), ∀ b, env.frame = some b → b ∈ (envOf name scope L a cd :: outer).filterMap (·.frame) := fun env he b hb => List.mem_filterMap.mpr ⟨env, he, hb⟩
  obtain ⟨ob, he, hc, t, hd⟩ := x.there
  have hl : s'.heap.FunFrames (hideAll h ((envOf name scope L a cd :: outer).filterMap (·.frame))) (envOf name scope L a cd :: outer) := (funFrames_hide K'.frames hin).of_keeps fun b o hb _ => ⟨o, x.keeps b o hb, rfl⟩
  have hne : ∀ b o, h.get? b = some o → b ≠ e := fun b o hb q => by rw [q, x.new] at hb; cases hb
  have hene : e ∉ (envOf name scope L a cd :: outer).filterMap (·.frame) := fun hm => by
    obtain ⟨_, o, ho, hnf⟩ := hl.mem hm
    rw [he] at ho; injection ho with ho; subst ho; exact hnf _ hd
  unfold noteFrame
  simp only [show (envOf name scope L a cd).frame = some L from rfl]
  refine wpAny_bind (wpAny_field (x := Value.none) he hd rfl ?_)
  rw [if_neg (show ¬ ((Value.none != Value.none) = true) by decide)]
  refine wpAny_bind (wpAny_frameOf_fun (hA.trans K'.stack) hl rfl fun h₁ hs₁ => ?_)
  refine wpAny_bind (wpAny_entryPlaceOf fun pl hpl => ?_)
  unfold EntryCells.newEntry newFields
  refine wpAny_bind (wpAny_newObj_type ?_ (hpl.sizeOk5 _ _ _ _ _))
  have he₁ : h₁.get? e = some ob := (hs₁.2.1 e hene).trans he
  have he₂ := Heap.get?_push_of_some (h := h₁) { cls := .type "traceback", dict := none, data := .fields ([.none, .ref L, .none, rawInt L, .none] ++ (if pl.isEmpty then List.replicate 6 Value.none else pl)).toArray } he₁
  refine wpAny_setField he₂ hd (show 1 < 6 by decide) ?_
  have hTe : h₁.objs.size ≠ e := Nat.ne_of_gt (Heap.lt_size he₁)
  have hd₃ := Obj.data_mapFields hd (·.setIfInBounds 1 (Value.ref h₁.objs.size))
  have he₃ := Heap.get?_update_self (Obj.mapFields (·.setIfInBounds 1 (Value.ref h₁.objs.size))) he₂ (Obj.isFreed_of_fields hd₃)
  have hT₃ := (Heap.get?_update_other (h₁.push { cls := .type "traceback", dict := none, data := .fields ([.none, .ref L, .none, rawInt L, .none] ++ (if pl.isEmpty then List.replicate 6 Value.none else pl)).toArray })
    (Obj.mapFields (·.setIfInBounds 1 (Value.ref h₁.objs.size))) (Ne.symm hTe)).trans (Heap.get?_push_size h₁ rfl)
  have keep : ∀ b o, b ≠ e → h₁.get? b = some o →
      ((h₁.push { cls := .type "traceback", dict := none, data := .fields ([.none, .ref L, .none, rawInt L, .none] ++ (if pl.isEmpty then List.replicate 6 Value.none else pl)).toArray }).update e (Obj.mapFields (·.setIfInBounds 1 (Value.ref h₁.objs.size)))).get? b = some o :=
    fun b o hbe hb => by
      rw [Heap.get?_update_other _ _ (Ne.symm hbe)]
      exact Heap.get?_push_of_some _ hb
  have keep' : ∀ b o, h.get? b = some o → b ∉ (envOf name scope L a cd :: outer).filterMap (·.frame) →
      ((h₁.push { cls := .type "traceback", dict := none, data := .fields ([.none, .ref L, .none, rawInt L, .none] ++ (if pl.isEmpty then List.replicate 6 Value.none else pl)).toArray }).update e (Obj.mapFields (·.setIfInBounds 1 (Value.ref h₁.objs.size)))).get? b = some o :=
    fun b o hb hm => keep b o (hne b o hb) ((hs₁.2.1 b hm).trans (x.keeps b o hb))
  generalize hH : ((h₁.push { cls := .type "traceback", dict := none, data := .fields ([.none, .ref L, .none, rawInt L, .none] ++ (if pl.isEmpty then List.replicate 6 Value.none else pl)).toArray }).update e (Obj.mapFields (·.setIfInBounds 1 (Value.ref h₁.objs.size)))) = h₃ at he₃ hT₃ keep keep' ⊢
  have hTn : ∀ b o, h.get? b = some o → b ≠ h₁.objs.size := fun b o hb q => by
    have h2 := x.keeps b o hb
    have h3 := Heap.lt_size h2
    rw [← hs₁.1, q] at h3
    exact Nat.lt_irrefl _ h3
  have hB : ∀ b o, h.get? b = some o → b ∉ (envOf name scope L a cd :: outer).filterMap (·.frame) → (hideAll h ((envOf name scope L a cd :: outer).filterMap (·.frame))).get? b = some o := fun b o hb hm => hideAll_get _ hb hm
  have hBh : (hideAll h ((envOf name scope L a cd :: outer).filterMap (·.frame))).StaysIn h₃ := fun b o hb => by
    refine keep' b o (of_hideAll _ hb) fun hm => ?_
    rw [hideAll_none _ hm] at hb
    cases hb
  have hsm : h.UpToSlots h₃ := fun b o hb hnf => by
    obtain ⟨sl, hs⟩ := hs₁.2.2 b o (x.keeps b o hb)
    exact ⟨sl, keep b _ (hne b o hb) hs⟩
  obtain ⟨g', T', F', B'⟩ := kts_ground (name := name) (scope := scope) (a := a) (cd := cd) K F hB hBh hsm
  have gnone : ∀ b, h.get? b = none → g'.get? b = none := fun b hb => T'.none_ _ (kts_none F.keep hb)
  have hTnone : h.get? h₁.objs.size = none := by
    cases q : h.get? h₁.objs.size with
    | none => rfl
    | some o => exact absurd rfl (hTn _ _ q)
  have hLe : L ≠ e := fun q => by
    obtain ⟨o, _, _, hL, _⟩ := F.ns
    exact hne L o hL q
  have hLT : L ≠ h₁.objs.size := fun q => by
    obtain ⟨o, _, _, hL, _⟩ := F.ns
    exact hTn L o hL q
  have hTb : TbObj { cls := .type "traceback", dict := none, data := .fields (([.none, .ref L, .none, rawInt L, .none] : List Value) ++ (if pl.isEmpty then List.replicate 6 Value.none else pl)).toArray } (rawInt L) := ⟨_, rfl, by simp⟩
  refine k h₃ g' h₁.objs.size _ _ (T0.trans T') F' (fun q hq => ?_) (ExcObj.set1 ⟨hc, t, hd⟩) hTb hTe (fun q hq => hTn _ _ (N q hq).1) (fun q hq => hne _ _ (N q hq).1) B' (XB.keeps B'.stays) (TB.keeps B'.stays) (D.turn T')
  rcases List.mem_cons.mp hq with rfl | hq
  · exact ⟨he₃, Ne.symm hLe, gnone _ x.new⟩
  · rcases List.mem_cons.mp hq with rfl | hq
    · exact ⟨hT₃, Ne.symm hLT, gnone _ hTnone⟩
    · refine ⟨keep' _ _ (N q hq).1 fun hm => ?_, (N q hq).2.1, T'.none_ _ (N q hq).2.2⟩
      rcases kts_mem hm with z | z
      · exact (N q hq).2.1 z
      · obtain ⟨o, ho, _⟩ := (K.frames.mem z).2
        rw [(N q hq).2.2] at ho; cases ho
theorem note_again {M : Model} {Q : Unit → Shared → Prop} (N : News g L s'.heap ((e, oe) :: (T, oT) :: news)) (x : ExcObj oe X (.ref T) ctx) (y : TbObj oT (rawInt L)) (h : Q () s') : wpAny M A (noteFrame (.ref e) (envOf name scope L a cd)) Q E s' := by
  obtain ⟨hc, t, hd⟩ := x
  obtain ⟨ts, hdT, h3⟩ := y
  unfold noteFrame
  simp only [show (envOf name scope L a cd).frame = some L from rfl]
  refine wpAny_bind (wpAny_field (x := Value.ref T) (N _ (.head _)).1 hd rfl ?_)
  rw [if_pos (show (Value.ref T != Value.none) = true from by simp)]
  refine wpAny_bind (wpAny_field (N _ (.tail _ (.head _))).1 hdT h3 ?_)
  rw [if_pos (show (rawInt L == rawInt L) = true from by simp)]
  exact wpAny_pure h
theorem flight_set {M : Model} {Q : Unit → Shared → Prop} {fr : Option Addr} (F : Fr g L s'.heap m) (N : News g L s'.heap ((e, oe) :: (T, oT) :: news)) (x : ExcObj oe X (.ref T) ctx) (y : TbObj oT fl) (n1 : @Ne Nat T e) (n2 : ∀ q ∈ news, @Ne Nat q.1 T)
    (h : ∀ h' oT', Fr g L h' m → News g L h' ((e, oe) :: (T, oT') :: news) → TbObj oT' (fr.elim .none fun f => rawInt f) → Q () { s' with heap := h' }) : wpAny M A (setFlight (.ref e) fr) Q E s' := by
  have hT := N (T, oT) (.tail _ (.head _))
  obtain ⟨hc, t, hd⟩ := x
  obtain ⟨ts, hdT, h3⟩ := id y
  unfold setFlight
  refine wpAny_bind (wpAny_field (x := Value.ref T) (N _ (.head _)).1 hd rfl ?_)
  rw [if_pos (show (Value.ref T != Value.none) = true from by simp)]
  refine wpAny_setField hT.1 hdT (Array.getElem?_eq_some_iff.mp h3).1 ?_
  refine h _ _ (F.change (Heap.SameBut.update ..) hT.2.1 hT.2.2) ?_ y.set
  exact news_S (pre := [(e, oe)]) N (fun q hq => by rw [List.mem_singleton.mp hq]; exact Ne.symm n1) n2 (fun b o hb hh => (Heap.get?_update_other _ _ (Ne.symm hb)).trans hh) (Heap.get?_update_self _ hT.1 (Obj.isFreed_of_fields (Obj.data_mapFields hdT _)))
theorem handle_ix {np pos : Pos} {b₀ : Stmt} {suite : List Stmt} {rest : List ExceptHandler} {Q : Flow → Shared → Prop} (F : Fr g L s'.heap m) (N : News g L s'.heap ((e, oe) :: (T, oT) :: news)) (x : ExcObj oe "IndexError" (.ref T) ctx) (y : TbObj oT fl) (n1 : @Ne Nat T e) (n2 : ∀ q ∈ news, @Ne Nat q.1 T)
    (XG : KX.In g) (TG : Top p loose mean mg mb g) (ex : nsIn KX mainGlobals (Str.ofString "IndexError") = some none)
    (k : ∀ h', Fr g L h' m → News g L h' news → wpAny (model prog w) ((A₀.deeper (envOf name scope L a cd)).mark (some (.ref e))) (execs (b₀ :: suite) (envOf name scope L a cd)) Q E { s' with heap := h' })
    (hE : PassesOwnAt (model prog w) ((A₀.deeper (envOf name scope L a cd)).mark (some (.ref e))) (A₀.deeper (envOf name scope L a cd)) (envOf name scope L a cd) E)
    (hk : scope.kind = .function := by rfl) (hx : (envOf name scope L a cd).kindOf (Str.ofString "IndexError") = some .globalImplicit := by rfl) :
    wpAny (model prog w) (A₀.deeper (envOf name scope L a cd)) (handleBy (.ref e) (envOf name scope L a cd) (.ExceptHandler (some (.Name (Str.ofString "IndexError") np)) none (b₀ :: suite) pos :: rest)) Q E s' := by
  have he := (N _ (.head _)).1
  refine wpAny_handleBy_builtin (X := "IndexError") (T := "IndexError") (b := true) PySem.F.isExc_IndexError PySem.F.notTuple_IndexError (by rw [isSubtype_type]; kernel_rfl) (name_B F XG (topRead_of TG) ex PyProof.Rows.Boot.«IndexError» (by decide) ⟨rfl, ⟨oe, he, x.1⟩, ?_⟩ hk hx (by decide))
  rw [if_pos rfl]
  exact flight_set F N x y n1 n2 fun h' oT' F' N' _ => wpAny_passesOwnAt hE (k h' F' (news_tl (news_tl N')))
theorem catch_first {np pos : Pos} {b₀ : Stmt} {suite : List Stmt} {rest : List ExceptHandler} {Q : Flow → Shared → Prop} (K : Below A₀ base outer g) (F : Fr g L h m) (N : News g L h news) (x : NewX h s'.heap e "IndexError" ctx) (XB : KX.In base) (TB : Top p loose mean mg mb base)
    (D : KtsDicts (outer.filterMap (·.frame)) g) (T0 : KtsTurn (outer.filterMap (·.frame)) g₀ g) (ex : nsIn KX mainGlobals (Str.ofString "IndexError") = some none)
    (k : ∀ h' g', KtsTurn (outer.filterMap (·.frame)) g₀ g' → Fr g' L h' m → News g' L h' news → Below A₀ base outer g' → KX.In g' → Top p loose mean mg mb g' → KtsDicts (outer.filterMap (·.frame)) g' →
      wpAny (model prog w) ((A₀.deeper (envOf name scope L a cd)).mark (some (.ref e))) (execs (b₀ :: suite) (envOf name scope L a cd)) Q E { s' with heap := h' })
    (hE : PassesOwnAt (model prog w) ((A₀.deeper (envOf name scope L a cd)).mark (some (.ref e))) (A₀.deeper (envOf name scope L a cd)) (envOf name scope L a cd) E)
    (hk : scope.kind = .function := by rfl) (hx : (envOf name scope L a cd).kindOf (Str.ofString "IndexError") = some .globalImplicit := by rfl) :
    wpAny (model prog w) (A₀.deeper (envOf name scope L a cd)) (noteFrame (.ref e) (envOf name scope L a cd))
      (fun _ s₂ => wpAny (model prog w) (A₀.deeper (envOf name scope L a cd)) (setFlight (.ref e) none) (fun _ s₃ =>
        wpAny (model prog w) (A₀.deeper (envOf name scope L a cd)) (handleBy (.ref e) (envOf name scope L a cd) (.ExceptHandler (some (.Name (Str.ofString "IndexError") np)) none (b₀ :: suite) pos :: rest)) Q E s₃) E s₂) E s' :=
  note_first K F N x XB TB D T0 rfl (fun h₁ g₁ T oe oT T₁ F₁ N₁ x₁ y₁ n1 n2 n3 B₁ X₁ P₁ D₁ =>
    flight_set F₁ N₁ x₁ y₁ n1 n2 fun h₂ oT₂ F₂ N₂ y₂ =>
      handle_ix F₂ N₂ x₁ y₂ n1 n2 X₁ P₁ ex (fun h₃ F₃ N₃ => k h₃ g₁ T₁ F₃ N₃ B₁ X₁ P₁ D₁) hE hk hx) hk
theorem catch_held {np pos : Pos} {b₀ : Stmt} {suite : List Stmt} {rest : List ExceptHandler} {Q : Flow → Shared → Prop} (F : Fr g L s'.heap m) (N : News g L s'.heap ((e, oe) :: (T, oT) :: news)) (x : ExcObj oe "IndexError" (.ref T) ctx) (y : TbObj oT (rawInt L)) (n1 : @Ne Nat T e) (n2 : ∀ q ∈ news, @Ne Nat q.1 T)
    (XG : KX.In g) (TG : Top p loose mean mg mb g) (ex : nsIn KX mainGlobals (Str.ofString "IndexError") = some none)
    (k : ∀ h', Fr g L h' m → News g L h' news → wpAny (model prog w) ((A₀.deeper (envOf name scope L a cd)).mark (some (.ref e))) (execs (b₀ :: suite) (envOf name scope L a cd)) Q E { s' with heap := h' })
    (hE : PassesOwnAt (model prog w) ((A₀.deeper (envOf name scope L a cd)).mark (some (.ref e))) (A₀.deeper (envOf name scope L a cd)) (envOf name scope L a cd) E)
    (hk : scope.kind = .function := by rfl) (hx : (envOf name scope L a cd).kindOf (Str.ofString "IndexError") = some .globalImplicit := by rfl) :
    wpAny (model prog w) (A₀.deeper (envOf name scope L a cd)) (noteFrame (.ref e) (envOf name scope L a cd))
      (fun _ s₂ => wpAny (model prog w) (A₀.deeper (envOf name scope L a cd)) (setFlight (.ref e) none) (fun _ s₃ =>
        wpAny (model prog w) (A₀.deeper (envOf name scope L a cd)) (handleBy (.ref e) (envOf name scope L a cd) (.ExceptHandler (some (.Name (Str.ofString "IndexError") np)) none (b₀ :: suite) pos :: rest)) Q E s₃) E s₂) E s' :=
  note_again N x y (flight_set F N x y n1 n2 fun h₂ oT₂ F₂ N₂ y₂ => handle_ix F₂ N₂ x y₂ n1 n2 XG TG ex k hE hk hx)
theorem fin_first {final : List Stmt} {Q : Flow → Shared → Prop} (K : Below A₀ base outer g) (F : Fr g L h m) (N : News g L h news) (x : NewX h s'.heap e X ctx) (XB : KX.In base) (TB : Top p loose mean mg mb base)
    (D : KtsDicts (outer.filterMap (·.frame)) g) (T0 : KtsTurn (outer.filterMap (·.frame)) g₀ g)
    (k : ∀ h' g' T oe oT, KtsTurn (outer.filterMap (·.frame)) g₀ g' → Fr g' L h' m → News g' L h' ((e, oe) :: (T, oT) :: news) → ExcObj oe X (.ref T) ctx → TbObj oT .none → @Ne Nat T e → (∀ q ∈ news, @Ne Nat q.1 T) → (∀ q ∈ news, @Ne Nat q.1 e) →
      Below A₀ base outer g' → KX.In g' → Top p loose mean mg mb g' → KtsDicts (outer.filterMap (·.frame)) g' →
      wpAny (model prog w) ((A₀.deeper (envOf name scope L a cd)).mark (some (.ref e))) (execs final (envOf name scope L a cd))
        (fun f s₂ => match f with | .next => wpAny (model prog w) (A₀.deeper (envOf name scope L a cd)) (PySem.passOn "try.finally" (.ref e) (envOf name scope L a cd)) Q E s₂ | f => wpAny (model prog w) (A₀.deeper (envOf name scope L a cd)) (setFlight (.ref e) none) (fun _ s₃ => Q f s₃) E s₂) E { s' with heap := h' })
    (hE : PassesOwnAt (model prog w) ((A₀.deeper (envOf name scope L a cd)).mark (some (.ref e))) (A₀.deeper (envOf name scope L a cd)) (envOf name scope L a cd) E)
    (hk : scope.kind = .function := by rfl) :
    wpAny (model prog w) (A₀.deeper (envOf name scope L a cd)) (noteFrame (.ref e) (envOf name scope L a cd)) (fun _ s₂ => FinallyRaised prog w (A₀.deeper (envOf name scope L a cd)) E (envOf name scope L a cd) final Q (.ref e) s₂) (FinallyRaised prog w (A₀.deeper (envOf name scope L a cd)) E (envOf name scope L a cd) final Q) s' :=
  note_first K F N x XB TB D T0 rfl (fun h₁ g₁ T oe oT T₁ F₁ N₁ x₁ y₁ n1 n2 n3 B₁ X₁ P₁ D₁ =>
    ⟨ref_ne_byPass e, note_again N₁ x₁ y₁ (flight_set F₁ N₁ x₁ y₁ n1 n2 fun h₂ oT₂ F₂ N₂ y₂ =>
      wpAny_passesOwnAt hE (k h₂ g₁ T oe oT₂ T₁ F₂ N₂ x₁ y₂ n1 n2 n3 B₁ X₁ P₁ D₁))⟩) hk
theorem pass_on {Q : Flow → Shared → Prop} {what : String} (F : Fr g L s'.heap m) (N : News g L s'.heap ((e, oe) :: (T, oT) :: news)) (x : ExcObj oe X (.ref T) ctx) (y : TbObj oT fl) (n1 : @Ne Nat T e) (n2 : ∀ q ∈ news, @Ne Nat q.1 T)
    (h : ∀ h' oT', Fr g L h' m → News g L h' ((e, oe) :: (T, oT') :: news) → TbObj oT' (rawInt L) → E (.ref e) { s' with heap := h' }) : wpAny (model prog w) A (PySem.passOn what (.ref e) (envOf name scope L a cd)) Q E s' := by
  obtain ⟨hc, t, hd⟩ := id x
  unfold PySem.passOn
  refine wpAny_bind (wpAny_field (x := Value.ref T) (N _ (.head _)).1 hd rfl ?_)
  rw [if_neg (show ¬ ((Value.ref T == Value.none) = true) from by simp)]
  exact wpAny_bind (flight_set F N x y n1 n2 fun h' oT' F' N' y' => wpAny_throw (h h' oT' F' N' y'))
end
section
variable {prog : Program} {w : World} {A : Around} {E : Value → Shared → Prop} {s : Shared} {e0 : Addr} {o0 : Obj} {X0 : String} {tb0 : Value}
theorem unchain_none {A' : Around} {v sl : Value} {b : Bool} {Q : Value → Shared → Prop} (h0 : s.heap.get? e0 = some o0) (x0 : ExcObj o0 X0 tb0 .none) (h : Q .none s) :
    wpAny (model prog w) A' (runValue (.builtin "proto.unchain" ⟨[v, .ref e0, sl, .bool b], []⟩)) Q E s := by
  obtain ⟨_, t, hd⟩ := x0
  refine wpAny_runValue (codeAny_builtin (b := Builtin.«proto.unchain») (entryFor_of_tree (by kernel_rfl)) ?_)
  show wpAny _ _ (do
    let context ← field (.ref e0) 2
    if context == .none then return ← ret .none
    if context == v then
      rule "raise.context-cycle-cut"
      setField (.ref e0) 2 .none
      return ← ret .none
    if context == sl then rule "raise.context-old-cycle"; return ← ret .none
    let slow ← if b then field sl 2 else pure sl
    again (.builtin "proto.unchain" ⟨[v, context, slow, .bool !b], []⟩)) _ _ s
  refine wpAny_bind (wpAny_field (x := Value.none) h0 hd rfl ?_)
  rw [if_pos (show (Value.none == Value.none) = true by decide)]
  exact wpAny_pure h
theorem raise_ctx {α : Type} {cls msg : String} {Q : α → Shared → Prop} (hp : PlainExc cls) (hh : A.handled = some (.ref e0)) (h0 : s.heap.get? e0 = some o0) (x0 : ExcObj o0 X0 tb0 .none)
    (h : ∀ h' tk e, NewX s.heap h' e cls (.ref e0) → E (.ref e) { s with heap := h', toks := tk }) : wpAny (model prog w) A (raiseErrorWords cls msg : Sem α) Q E s := by
  unfold raiseErrorWords
  refine wpAny_bind (wpAny_mkText (wpAny_bind ?_))
  unfold newExc newTuple
  refine wpAny_bind (wpAny_newObj_type ?_)
  refine wpAny_bind (m := firstArgMember _ _) (wpAny_of_eq (a := Value.none) (by simp only [firstArgMember, hp.first]; rfl) ?_)
  rw [hp.own]
  refine wpAny_newObj_type ?_
  unfold raiseNew
  refine wpAny_bind (wpAny_handled ?_)
  rw [hh]
  dsimp only
  have k0 : ∀ b o, s.heap.get? b = some o → (s.heap.push { cls := .type "tuple", data := .seq #[Value.str (Str.ofString msg) s.toks] }).get? b = some o := fun b o hb => Heap.get?_push_of_some _ hb
  generalize hH : s.heap.push { cls := .type "tuple", data := .seq #[Value.str (Str.ofString msg) s.toks] } = H at k0 ⊢
  have hlt : e0 < H.objs.size := Heap.lt_size (k0 _ _ h0)
  have hsz : s.heap.objs.size ≤ H.objs.size := by rw [← hH, Heap.size_push]; exact Nat.le_succ _
  rw [if_pos (show (Value.ref e0 != Value.ref H.objs.size) = true from by simp; exact Nat.ne_of_lt hlt)]
  have k1 : ∀ b o, s.heap.get? b = some o → (H.push { cls := .type cls, data := .fields (#[Value.ref s.heap.objs.size, Value.none, Value.none, Value.none, Value.bool false, Value.none] ++ #[]) }).get? b = some o := fun b o hb => Heap.get?_push_of_some _ (k0 b o hb)
  have he := Heap.get?_push_size H (o := { cls := .type cls, data := .fields (#[Value.ref s.heap.objs.size, Value.none, Value.none, Value.none, Value.bool false, Value.none] ++ #[]) }) rfl
  refine wpAny_bind (wpAny_holding (unchain_none (k1 _ _ h0) x0 ?_))
  unfold updateField
  refine wpAny_bind (wpAny_bind (wpAny_load he ?_))
  dsimp only
  rw [if_pos (by simp)]
  refine wpAny_update he (wpAny_throw (h _ _ _ ⟨fun b o hb => ?_, ?_, ?_⟩))
  · exact (Heap.get?_update_other _ _ (fun q => Nat.lt_irrefl _ (Nat.lt_of_lt_of_le (by have := Heap.lt_size hb; rw [← q] at this; exact this) hsz))).trans (k1 b o hb)
  · exact Heap.get?_none_of_le hsz
  · exact ⟨_, Heap.get?_update_self _ he rfl, ExcObj.set2 (ctx := .none) ⟨rfl, _, rfl⟩⟩
end
section
variable {prog : Program} {w : World} {A : Around} {E : Value → Shared → Prop} {s : Shared} {e0 : Addr} {o0 : Obj} {X0 : String} {tb0 : Value}
theorem item_out_ctx {value slice : Expr} {l : Addr} {items : Array Value} {k : Int} {u : Tok} {Q : Value → Shared → Prop} (hA : A.handled = some (.ref e0)) (h0 : s.heap.get? e0 = some o0) (x0 : ExcObj o0 X0 tb0 .none) (hl : s.heap.IsList l items)
    (hout : (items.size : Int) ≤ k) (hhi : k < 2 ^ 63)
    (hE : ∀ h' tk e, NewX s.heap h' e "IndexError" (.ref e0) → E (.ref e) { s with heap := h', toks := tk })
    (hs : subscripted slice false (.ref l) (.int k u) = operate [.ref l, .int k u] (getItem (.ref l) (.int k u)) := by with_unfolding_all rfl) :
    wpAny (model prog w) A (subscriptTail value slice (.ref l) (.int k u)) Q E s := by
  refine tail_any hl.typeIs slot_list_getitem.lookup ?_ hs
  obtain ⟨o, ho, hc, ne, hd⟩ := id hl
  unfold getItem
  try with_reducible refine wpAny_holding ?_
  first | refine wpAny_bind (wpAny_pure ?_) | skip
  refine wpAny_bind (wpAny_sequenceKey hl.typeIs (by decide) ?_)
  refine wpAny_bind (wpAny_callSpecial?_slot (name := Str.ofString "__getitem__") hl.typeIs slot_list_getitem
    (wpAny_call_entry slot_list_getitem hl.typeIs entry_list_getitem ?_ (args_list_getitem _ _)))
  show wpAny _ _ (Builtin.List.listSubscript? (.int k u) >>= _) _ _ s
  refine wpAny_bind (wpAny_listSubscript_int (fitsIndex_both (by omega) hhi) ?_)
  clear hhi
  cases k with
  | negSucc j => exact absurd hout (by have := Int.negSucc_lt_zero j; omega)
  | ofNat j =>
    have hx : items[j]? = none := Array.getElem?_eq_none (by have : (items.size : Int) ≤ (j : Int) := hout; omega)
    show wpAny _ _ ((seqItemAt l j >>= fun r => pure (r.map (j, ·))) >>= _) _ _ s
    refine wpAny_bind (wpAny_bind (wpAny_seqItemAt ho hd (wpAny_pure ?_)))
    rw [hx]
    first
      | exact wpAny_bind (wpAny_rule (raise_ctx plainExc_IndexError hA h0 x0 hE))
      | exact wpAny_bind (wpAny_rule (wpAny_bind (raise_ctx plainExc_IndexError hA h0 x0 hE)))
      | exact wpAny_bind (wpAny_bind (wpAny_rule (raise_ctx plainExc_IndexError hA h0 x0 hE)))
      | exact wpAny_rule (raise_ctx plainExc_IndexError hA h0 x0 hE)
theorem outC {value slice : Expr} {l : Addr} {items : Array Value} {k : Int} {u : Tok} {Q : Value → Shared → Prop} (hE : ∀ h' tk e, NewX s.heap h' e "IndexError" (.ref e0) → E (.ref e) { s with heap := h', toks := tk })
    (hA : A.handled = some (.ref e0) := by exact rfl) (hl : s.heap.IsList l items := by exact News.isList (by k_asm) (by k_mem)) (x0 : ExcObj o0 X0 tb0 .none := by assumption) (h0 : s.heap.get? e0 = some o0 := by exact News.get (by k_asm) (by k_mem)) (hout : (items.size : Int) ≤ k := by assumption) (hhi : k < 2 ^ 63 := by omega)
    (hs : subscripted slice false (.ref l) (.int k u) = operate [.ref l, .int k u] (getItem (.ref l) (.int k u)) := by with_unfolding_all rfl) :
    wpAny (model prog w) A (subscriptTail value slice (.ref l) (.int k u)) Q E s := item_out_ctx hA h0 x0 hl hout hhi hE hs
end
noncomputable def UpX (g : Heap) (L : Addr) (m : Str → Option Value) (news : List (Addr × Obj)) (hs : Heap) (e : Addr) : Prop :=
  (∃ h ctx, Fr g L h m ∧ News g L h news ∧ NewX h hs e "IndexError" ctx) ∨
  (∃ T oe oT ctx, Fr g L hs m ∧ News g L hs ((e, oe) :: (T, oT) :: news) ∧ ExcObj oe "IndexError" (.ref T) ctx ∧ TbObj oT (rawInt L) ∧ @Ne Nat T e ∧ ∀ q ∈ news, @Ne Nat q.1 T)
structure GrX (A₀ : Around) (KX : Frag) (p : Program) (loose : List Str) (mean : ExcName → Option Value) (mg mb : Str → Option Value) (base : Heap) (outer : List Env) (g₀ g : Heap) : Prop where
  b : Below A₀ base outer g
  x : KX.In g
  t : Top p loose mean mg mb g
  d : KtsDicts (outer.filterMap (·.frame)) g
  u : KtsTurn (outer.filterMap (·.frame)) g₀ g
section
variable {prog : Program} {w : World} {A₀ A : Around} {E : Value → Shared → Prop} {s' s : Shared} {base g g₀ h : Heap} {outer : List Env} {L a e T : Addr} {oe oT : Obj} {m : Str → Option Value} {name : Str} {scope : Scope} {cd : Value} {env : Env}
  {KX : Frag} {p : Program} {loose : List Str} {mean : ExcName → Option Value} {mg mb : Str → Option Value} {news : List (Addr × Obj)} {X : String} {ctx fl : Value}
theorem catch_any {np pos : Pos} {b₀ : Stmt} {suite : List Stmt} {rest : List ExceptHandler} {Q : Flow → Shared → Prop} (G : GrX A₀ KX p loose mean mg mb base outer g₀ g) (x : UpX g L m news s'.heap e) (XB : KX.In base) (TB : Top p loose mean mg mb base)
    (ex : nsIn KX mainGlobals (Str.ofString "IndexError") = some none)
    (k : ∀ h' g', GrX A₀ KX p loose mean mg mb base outer g₀ g' → Fr g' L h' m → News g' L h' news →
      wpAny (model prog w) ((A₀.deeper (envOf name scope L a cd)).mark (some (.ref e))) (execs (b₀ :: suite) (envOf name scope L a cd)) Q E { s' with heap := h' })
    (hE : PassesOwnAt (model prog w) ((A₀.deeper (envOf name scope L a cd)).mark (some (.ref e))) (A₀.deeper (envOf name scope L a cd)) (envOf name scope L a cd) E)
    (hk : scope.kind = .function := by rfl) (hx : (envOf name scope L a cd).kindOf (Str.ofString "IndexError") = some .globalImplicit := by rfl) :
    wpAny (model prog w) (A₀.deeper (envOf name scope L a cd)) (noteFrame (.ref e) (envOf name scope L a cd))
      (fun _ s₂ => wpAny (model prog w) (A₀.deeper (envOf name scope L a cd)) (setFlight (.ref e) none) (fun _ s₃ =>
        wpAny (model prog w) (A₀.deeper (envOf name scope L a cd)) (handleBy (.ref e) (envOf name scope L a cd) (.ExceptHandler (some (.Name (Str.ofString "IndexError") np)) none (b₀ :: suite) pos :: rest)) Q E s₃) E s₂) E s' := by
  rcases x with ⟨h, ctx, F, N, x⟩ | ⟨T, oe, oT, ctx, F, N, x, y, n1, n2⟩
  · exact catch_first G.b F N x XB TB G.d G.u ex (fun h' g' u F' N' b x t d => k h' g' ⟨b, x, t, d, u⟩ F' N') hE hk hx
  · exact catch_held F N x y n1 n2 G.x G.t ex (fun h' F' N' => k h' g G F' N') hE hk hx
theorem try_ix {P : Value → Shared → Prop} {body : List Stmt} {hd : ExceptHandler} {hs : List ExceptHandler} {pos : Pos} {Q : Flow → Shared → Prop}
    (hP : ∀ e s', P e s' → wpAny (model prog w) A (noteFrame e env) (fun _ s₂ => wpAny (model prog w) A (setFlight e none) (fun _ s₃ => wpAny (model prog w) A (handleBy e env (hd :: hs)) Q E s₃) E s₂) E s')
    (hw : ∀ E₂, PassesOwn (model prog w) A env E₂ → (∀ e, PassesOwnAt (model prog w) (A.mark (some e)) A env E₂) → (∀ e, PassesOwn (model prog w) (A.mark (some e)) env E₂) → (∀ e s', P e s' → E₂ e s') → wpAny (model prog w) A (execs body env) Q E₂ s) :
    wpAny (model prog w) A (exec (.Try body (hd :: hs) [] [] pos) env) Q E s := by
  refine wpAny_Try_except (wpAny_mono (hw _ ?_ ?_ ?_ hP) (fun f s₁ h => ?_) fun _ _ e => e)
  · exact fun _ _ h => wpAny_look_again (SameStack.refl A) h
  · exact fun e _ _ h => wpAny_look_again (SameStack.mark A (some e)) h
  · exact fun e _ _ h => wpAny_look_again (SameStack.mark A (some e)) h
  · cases f with
    | next => rw [execs_nil]; exact wpAny_pure h
    | _ => exact h
theorem try_fin {P : Value → Shared → Prop} {body : List Stmt} {f₀ : Stmt} {fs : List Stmt} {pos : Pos} {Q : Flow → Shared → Prop} (hE : PassesOwn (model prog w) A env E)
    (hP : ∀ e s', P e s' → wpAny (model prog w) A (noteFrame e env) (fun _ s₂ => FinallyRaised prog w A E env (f₀ :: fs) Q e s₂) (FinallyRaised prog w A E env (f₀ :: fs) Q) s')
    (hw : ∀ E₂, PassesOwn (model prog w) A env E₂ → (∀ e s', P e s' → E₂ e s') → wpAny (model prog w) A (execs body env) (fun f s₁ => f = .next ∧ wpAny (model prog w) A (execs (f₀ :: fs) env) Q E s₁) E₂ s) :
    wpAny (model prog w) A (exec (.Try body [] [] (f₀ :: fs) pos) env) Q E s := by
  refine wpAny_Try_finally (wpAny_mono (hw _ ?_ hP) (fun f s₁ h => ?_) fun _ _ e => e)
  · exact fun _ _ h => wpAny_look_again (SameStack.refl A) h
  · obtain ⟨rfl, h⟩ := h
    show wpAny _ _ (execs [] env) _ _ _
    rw [execs_nil]
    refine wpAny_pure (wpAny_mono h (fun g s₂ hg => ?_) hE)
    cases g <;> exact hg
end
end
end
section
local macro_rules | `(tactic| walk_at "ENTER0") => `(tactic| (refine wpAny_call ?_; k_dflt (refine ent0 ?_); k_whole; intros; rename_i B'; (try dsimp only); (try k_lift B'); (try k_fold)))
section
local macro_rules | `(tactic| k_lt $h:ident) => `(tactic| ((with_reducible first | refine lts9 $h ?_ | refine lts8 $h ?_ | refine lts7 $h ?_ | refine lts6 $h ?_ | refine lts5 $h ?_ | refine lts4 $h ?_ | refine lts3 $h ?_ | refine lts2 $h ?_ | refine lts1 $h ?_); intro $h:ident; intros; (first | (have w9 : Seen := (by assumption); clear $h) | have w9 : Seen := Seen.mk)))
local macro_rules | `(tactic| k_all) => `(tactic| exact allLt_ne1 (by assumption) (by omega))
local macro_rules | `(tactic| k_all) => `(tactic| with_reducible assumption)
local macro_rules | `(tactic| walk_at "setAttr") => `(tactic| (k_dflt (refine fsa ?_); k_whole; intros; rename_i N' r' l1; (try dsimp only at N'); (try k_lt l1)))
section
section
variable {prog : Program} {w : World} {A : Around} {E : Value → Shared → Prop} {env : Env} {test : PySem.Expr} {body orelse : List Stmt} {Q : Flow → Shared → Prop}
noncomputable def WhlEnd {σ : Type} (J : σ → Shared → Prop) (μ : σ → Nat) (Q : Flow → Shared → Prop) (x : σ) (f : Flow) (s : Shared) : Prop :=
  match f with
  | .next => ∃ x', μ x' < μ x ∧ J x' s
  | .cont => ∃ x', μ x' < μ x ∧ J x' s
  | .brk => Q .next s
  | .ret v => Q (.ret v) s
theorem whl_ind {σ : Type} (J : σ → Shared → Prop) (μ : σ → Nat) (hE : PassesOwn (model prog w) A env E)
    (turn : ∀ x s, J x s → wpAny (model prog w) A (isTrue test env (eval test env)) (fun b s₂ => WhlIf b (wpAny (model prog w) A (execs body env) (WhlEnd J μ Q x) E s₂) (wpAny (model prog w) A (execs orelse env) Q E s₂)) E s)
    {x : σ} {s : Shared} (h0 : J x s) : WhlRest prog w A E env test body orelse Q 0 s := by
  have key : ∀ n x s, μ x < n → J x s → WhlRest prog w A E env test body orelse Q 1 s := by
    intro n
    induction n with
    | zero => intro x s h _; exact absurd h (Nat.not_lt_zero _)
    | succ n ih =>
      intro x s hx hJ
      refine whl_turn hE (wpAny_mono (turn x s hJ) (fun b s₂ hb => ?_) fun _ _ e => e)
      cases b with
      | false => exact hb
      | true =>
        refine wpAny_mono (show wpAny (model prog w) A (execs body env) (WhlEnd J μ Q x) E s₂ from hb) (fun f s₃ hf => ?_) fun _ _ e => e
        cases f with
        | next => obtain ⟨x', h1, h2⟩ := hf; exact ih x' s₃ (by omega) h2
        | cont => obtain ⟨x', h1, h2⟩ := hf; exact ih x' s₃ (by omega) h2
        | brk => exact hf
        | ret v => exact hf
  exact key _ x s (Nat.lt_succ_self _) h0
end
noncomputable def sldM (a1 a2 M U : Addr) (i j : Value) (ev av : Option Value) : Str → Option Value := fun y => if y = Str.ofString "i" then some i else if y = Str.ofString "j" then some j else if y = Str.ofString "e" then ev else if y = Str.ofString "a" then av else if y = Str.ofString "missing" then some (.ref M) else if y = Str.ofString "unexpected" then some (.ref U) else if y = Str.ofString "expected" then some (.ref a1) else if y = Str.ofString "actual" then some (.ref a2) else none
theorem slm {a1 a2 M U : Addr} {i j : Value} {ev av : Option Value} {f : Str → Option Value} (h1 : f (Str.ofString "i") = some i := by rfl) (h2 : f (Str.ofString "j") = some j := by rfl) (h3 : f (Str.ofString "e") = ev := by rfl) (h4 : f (Str.ofString "a") = av := by rfl) (h5 : f (Str.ofString "missing") = some (.ref M) := by rfl) (h6 : f (Str.ofString "unexpected") = some (.ref U) := by rfl)
    (h7 : f (Str.ofString "expected") = some (.ref a1) := by rfl) (h8 : f (Str.ofString "actual") = some (.ref a2) := by rfl) (h9 : ∀ y, y ≠ Str.ofString "i" ∧ y ≠ Str.ofString "j" ∧ y ≠ Str.ofString "e" ∧ y ≠ Str.ofString "a" ∧ y ≠ Str.ofString "missing" ∧ y ≠ Str.ofString "unexpected" ∧ y ≠ Str.ofString "expected" ∧ y ≠ Str.ofString "actual" → f y = none := by walk_at "S9") : f = sldM a1 a2 M U i j ev av := by
  funext y
  unfold sldM
  by_cases e1 : y = Str.ofString "i"
  · rw [if_pos e1, e1, h1]
  rw [if_neg e1]
  by_cases e2 : y = Str.ofString "j"
  · rw [if_pos e2, e2, h2]
  rw [if_neg e2]
  by_cases e3 : y = Str.ofString "e"
  · rw [if_pos e3, e3, h3]
  rw [if_neg e3]
  by_cases e4 : y = Str.ofString "a"
  · rw [if_pos e4, e4, h4]
  rw [if_neg e4]
  by_cases e5 : y = Str.ofString "missing"
  · rw [if_pos e5, e5, h5]
  rw [if_neg e5]
  by_cases e6 : y = Str.ofString "unexpected"
  · rw [if_pos e6, e6, h6]
  rw [if_neg e6]
  by_cases e7 : y = Str.ofString "expected"
  · rw [if_pos e7, e7, h7]
  rw [if_neg e7]
  by_cases e8 : y = Str.ofString "actual"
  · rw [if_pos e8, e8, h8]
  rw [if_neg e8]
  exact h9 y ⟨e1, e2, e3, e4, e5, e6, e7, e8⟩
local macro_rules | `(tactic| walk_at "exec While") => `(tactic| (refine whl_start 0 ?_; refine stop_here ?_))
local macro_rules | `(tactic| walk_at "exec Try") => `(tactic| (refine stop_here ?_))
local macro_rules | `(tactic| walk_at "exec Try cons nil") => `(tactic| (refine stop_here ?_))
local macro_rules | `(tactic| walk_at "S9") => `(tactic| (intro y9 z1; simp +zetaDelta [sldM, z1, List.lookup]; try (split <;> first | (simp_all; done) | (split <;> simp_all))))
local macro_rules | `(tactic| walk_at "subscriptTail Name Slice ref ref") => `(tactic| (k_dflt (refine slc ?_); intros; rename_i l1; (try k_lt l1)))
local macro_rules | `(tactic| walk_at "call builtin:list.extend") => `(tactic| (k_dflt (refine extL ?_); k_whole; intros; (try k_sweep)))
local macro_rules | `(tactic| walk_at "subscriptTail Name Name ref int") => `(tactic| ((with_reducible show wpAny _ (Around.mark _ _) _ _ _ _); k_dflt (refine outC ?_); k_whole; intros))
local macro_rules | `(tactic| walk_at "subscriptTail Name Name ref int") => `(tactic| ((with_reducible show wpAny _ (Around.deeper _ _) _ _ _ _); k_dflt (refine outL ?_); k_whole; intros))
local macro_rules | `(tactic| walk_at "subscriptTail Name Name ref int") => `(tactic| (k_dflt (refine itemL ?_); k_whole))
theorem dropWhile_len {α : Type} (p : α → Bool) : ∀ l : List α, (l.dropWhile p).length ≤ l.length
  | [] => Nat.le_refl _
  | a :: r => by
    rw [List.dropWhile_cons]
    split
    · exact Nat.le_succ_of_le (dropWhile_len p r)
    · exact Nat.le_refl _
noncomputable def sldL : List Str → List Str → List Str → List Str → List Str × List Str
  | e :: es, a :: as, ms, us =>
    if e.cps.toList < a.cps.toList then sldL (es.dropWhile (· == e)) (a :: as) (ms ++ [e]) us
    else if a.cps.toList < e.cps.toList then sldL (e :: es) (as.dropWhile (· == a)) ms (us ++ [a])
    else sldL (es.dropWhile (· == e)) (as.dropWhile (· == a)) ms us
  | es, as, ms, us => (ms ++ es, us ++ as)
termination_by es as => es.length + as.length
decreasing_by
  all_goals
    have h1 := dropWhile_len (· == e) es
    have h2 := dropWhile_len (· == a) as
    simp only [List.length_cons]
    omega
theorem sldL_end {es as ms us : List Str} {R : List Str × List Str} (h : sldL es as ms us = R) (hh : es = [] ∨ as = []) : (ms ++ es, us ++ as) = R := by
  rw [← h]
  rcases hh with rfl | rfl
  · rw [sldL]; intro e es a as h; exact (nomatch h)
  · cases es with
    | nil => rw [sldL]; intro e es a as h; exact (nomatch h)
    | cons e es => rw [sldL]; intro e es a as _ h; exact (nomatch h)
theorem size_drop {vs : List Value} {ws : List Str} {i : Nat} (h : TextsAre vs ws) (hd : ws.drop i = []) : (vs.toArray.size : Int) ≤ (i : Int) := by
  have := texts_len h
  have h2 := List.drop_eq_nil_iff.mp hd
  rw [List.size_toArray]
  omega
theorem at_drop {vs : List Value} {ws r : List Str} {y : Str} {i : Nat} (h : TextsAre vs ws) (hd : ws.drop i = y :: r) : ∃ t, vs[((i : Nat) : Int).toNat]? = some (.str y t) := by
  have hy : ws[i]? = some y := by rw [← List.head?_drop, hd]; rfl
  have hl := texts_len h
  have hi : i < vs.length := by rw [hl]; exact (List.getElem?_eq_some_iff.mp hy).1
  obtain ⟨z, t, h1, h2⟩ := texts_at h (List.getElem?_eq_getElem hi)
  rw [hy] at h1
  cases h1
  exact ⟨t, by rw [Int.toNat_natCast, List.getElem?_eq_getElem hi, h2]⟩
inductive SldJ (a1 a2 M U : Addr) (vE vA : List Value) (n1 n2 : Nat) (Es As : List Str) (news : List (Addr × Obj)) (R : List Str × List Str) (g0 : Heap) (L0 : Addr) (s0 : Shared) : (List Str × List Str × List Str × List Str) → Shared → Prop
  | mk (h : Heap) (tk : Nat) (i j : Nat) (ti tj : Tok) (vm vu : List Value) (nm nu : Nat) (ev av : Option Value) (es as ms us : List Str) : Fr g0 L0 h (sldM a1 a2 M U (.int (i : Int) ti) (.int (j : Int) tj) ev av) → News g0 L0 h ((U, listOf (List.toArray vu) nu) :: (M, listOf (List.toArray vm) nm) :: (a1, listOf vE.toArray n1) :: (a2, listOf vA.toArray n2) :: news) → Es.drop i = es → As.drop j = as → i ≤ Es.length → j ≤ As.length → TextsAre vm ms → TextsAre vu us → vm.length ≤ i → vu.length ≤ j → sldL es as ms us = R → SldJ a1 a2 M U vE vA n1 n2 Es As news R g0 L0 s0 (es, as, ms, us) { s0 with heap := h, toks := tk }
inductive SldUp (a1 a2 M U : Addr) (vE vA : List Value) (n1 n2 : Nat) (Es As : List Str) (news : List (Addr × Obj)) (R : List Str × List Str) (G : Heap → Prop) (L0 : Addr) (s0 : Shared) : Value → Shared → Prop
  | mk (ea : Addr) (g' h : Heap) (tk : Nat) (i j : Nat) (ti tj : Tok) (vm vu : List Value) (nm nu : Nat) (ev av : Option Value) (es as ms us : List Str) : G g' → UpX g' L0 (sldM a1 a2 M U (.int (i : Int) ti) (.int (j : Int) tj) ev av) ((U, listOf (List.toArray vu) nu) :: (M, listOf (List.toArray vm) nm) :: (a1, listOf vE.toArray n1) :: (a2, listOf vA.toArray n2) :: news) h ea → Es.drop i = es → As.drop j = as → i ≤ Es.length → j ≤ As.length → TextsAre vm ms → TextsAre vu us → vm.length ≤ i → vu.length ≤ j → sldL es as ms us = R → (es = [] ∨ as = []) → SldUp a1 a2 M U vE vA n1 n2 Es As news R G L0 s0 (.ref ea) { s0 with heap := h, toks := tk }
noncomputable def IsM (a1 a2 M U : Addr) (i j : Nat) (f : Str → Option Value) : Prop := ∃ (ti tj : Tok) (ev av : Option Value), f = sldM a1 a2 M U (.int (i : Int) ti) (.int (j : Int) tj) ev av
theorem dw_yes {y e : Str} {r : List Str} (h : (y == e) = true) : (y :: r).dropWhile (· == e) = r.dropWhile (· == e) := by rw [List.dropWhile_cons, h]; rfl
theorem dw_no {y e : Str} {r : List Str} (h : (y == e) = false) : (y :: r).dropWhile (· == e) = y :: r := by rw [List.dropWhile_cons, h]; rfl
theorem stop_open {P : Prop} (h : P) : Stop P := h
theorem drop_succ {ws r : List Str} {y : Str} {i : Nat} (h : ws.drop i = y :: r) : ws.drop (i + 1) = r := by
  rw [← List.drop_drop, h]; rfl
theorem drop_lt {ws r : List Str} {y : Str} {i : Nat} (h : ws.drop i = y :: r) : i + 1 ≤ ws.length := by
  rcases Nat.lt_or_ge i ws.length with h1 | h1
  · exact h1
  · rw [List.drop_eq_nil_of_le h1] at h; cases h
theorem sldL_lt {e a : Str} {er ar ms us : List Str} (h : e.cps.toList < a.cps.toList) : sldL (e :: er) (a :: ar) ms us = sldL (er.dropWhile (· == e)) (a :: ar) (ms ++ [e]) us := by
  rw [sldL, if_pos h]
theorem sldL_gt {e a : Str} {er ar ms us : List Str} (h : ¬ e.cps.toList < a.cps.toList) (h2 : a.cps.toList < e.cps.toList) : sldL (e :: er) (a :: ar) ms us = sldL (e :: er) (ar.dropWhile (· == a)) ms (us ++ [a]) := by
  rw [sldL, if_neg h, if_pos h2]
theorem sldL_eq {e a : Str} {er ar ms us : List Str} (h : ¬ e.cps.toList < a.cps.toList) (h2 : ¬ a.cps.toList < e.cps.toList) : sldL (e :: er) (a :: ar) ms us = sldL (er.dropWhile (· == e)) (ar.dropWhile (· == a)) ms us := by
  rw [sldL, if_neg h, if_neg h2]
section
variable {a1 a2 M U L0 ea : Addr} {vE vA vm vu : List Value} {n1 n2 nm nu : Nat} {Es As es as ms us : List Str} {news : List (Addr × Obj)} {R : List Str × List Str} {G : Heap → Prop} {g' h h2 : Heap} {s0 : Shared} {tk i j : Nat} {ti tj : Tok} {ev av : Option Value} {f : Str → Option Value} {ctx : Value}
theorem IsM.of {a1 a2 M U : Addr} {i j : Nat} {ti tj : Tok} {ev av : Option Value} : IsM a1 a2 M U i j (sldM a1 a2 M U (.int (i : Int) ti) (.int (j : Int) tj) ev av) := ⟨_, _, _, _, rfl⟩
theorem sld_up (hG : G g') (F : Fr g' L0 h f) (hf : IsM a1 a2 M U i j f) (N : News g' L0 h ((U, listOf (List.toArray vu) nu) :: (M, listOf (List.toArray vm) nm) :: (a1, listOf vE.toArray n1) :: (a2, listOf vA.toArray n2) :: news))
    (x : NewX h h2 ea "IndexError" ctx) (hes : Es.drop i = es) (has : As.drop j = as) (hi : i ≤ Es.length) (hj : j ≤ As.length) (hm : TextsAre vm ms) (hu : TextsAre vu us) (hlm : vm.length ≤ i) (hlu : vu.length ≤ j) (hR : sldL es as ms us = R) (hend : es = [] ∨ as = []) :
    SldUp a1 a2 M U vE vA n1 n2 Es As news R G L0 s0 (.ref ea) { s0 with heap := h2, toks := tk } :=
  let ⟨ti, tj, ev, av, hf⟩ := hf
  .mk ea g' h2 tk i j ti tj vm vu nm nu ev av es as ms us hG (.inl ⟨h, ctx, fr_eq F hf, N, x⟩) hes has hi hj hm hu hlm hlu hR hend
theorem sld_held {T : Addr} {oe oT : Obj} (hG : G g') (F : Fr g' L0 h f) (hf : IsM a1 a2 M U i j f) (N : News g' L0 h ((ea, oe) :: (T, oT) :: (U, listOf (List.toArray vu) nu) :: (M, listOf (List.toArray vm) nm) :: (a1, listOf vE.toArray n1) :: (a2, listOf vA.toArray n2) :: news))
    (x : ExcObj oe "IndexError" (.ref T) ctx) (y : TbObj oT (rawInt L0)) (n1' : @Ne Nat T ea) (n2' : ∀ q ∈ (U, listOf (List.toArray vu) nu) :: (M, listOf (List.toArray vm) nm) :: (a1, listOf vE.toArray n1) :: (a2, listOf vA.toArray n2) :: news, @Ne Nat q.1 T)
    (hes : Es.drop i = es) (has : As.drop j = as) (hi : i ≤ Es.length) (hj : j ≤ As.length) (hm : TextsAre vm ms) (hu : TextsAre vu us) (hlm : vm.length ≤ i) (hlu : vu.length ≤ j) (hR : sldL es as ms us = R) (hend : es = [] ∨ as = []) :
    SldUp a1 a2 M U vE vA n1 n2 Es As news R G L0 s0 (.ref ea) { s0 with heap := h, toks := tk } :=
  let ⟨ti, tj, ev, av, hf⟩ := hf
  .mk ea g' h tk i j ti tj vm vu nm nu ev av es as ms us hG (.inr ⟨T, oe, oT, ctx, fr_eq F hf, N, x, y, n1', n2'⟩) hes has hi hj hm hu hlm hlu hR hend
theorem sld_turn {Q : Flow → Shared → Prop} {x : List Str × List Str × List Str × List Str} (F : Fr g' L0 h f) (hf : IsM a1 a2 M U i j f) (N : News g' L0 h ((U, listOf (List.toArray vu) nu) :: (M, listOf (List.toArray vm) nm) :: (a1, listOf vE.toArray n1) :: (a2, listOf vA.toArray n2) :: news))
    (hes : Es.drop i = es) (has : As.drop j = as) (hi : i ≤ Es.length) (hj : j ≤ As.length) (hm : TextsAre vm ms) (hu : TextsAre vu us) (hlm : vm.length ≤ i) (hlu : vu.length ≤ j) (hR : sldL es as ms us = R) (hμ : es.length + as.length < x.1.length + x.2.1.length) :
    WhlEnd (SldJ a1 a2 M U vE vA n1 n2 Es As news R g' L0 s0) (fun x => x.1.length + x.2.1.length) Q x .next { s0 with heap := h, toks := tk } :=
  let ⟨ti, tj, ev, av, hf⟩ := hf
  ⟨(es, as, ms, us), hμ, .mk h tk i j ti tj vm vu nm nu ev av es as ms us (fr_eq F hf) N hes has hi hj hm hu hlm hlu hR⟩
inductive FinP (a1 a2 M U : Addr) (Es : List Str) (g : Heap) (L0 : Addr) (s0 : Shared) (jv : Value) (ev av : Option Value) (nw : List (Addr × Obj)) (er : List Str) (y : Str) (i0 : Nat) : Value → Shared → Prop
  | mk (ea : Addr) (h h2 : Heap) (tk k : Nat) (t : Tok) : Fr g L0 h (sldM a1 a2 M U (.int (k : Int) t) jv ev av) → News g L0 h nw → NewX h h2 ea "IndexError" .none → Es.drop k = [] → k ≤ Es.length → er.dropWhile (· == y) = [] → i0 ≤ k → FinP a1 a2 M U Es g L0 s0 jv ev av nw er y i0 (.ref ea) { s0 with heap := h2, toks := tk }
inductive LpE (a1 a2 M U : Addr) (Es : List Str) (g : Heap) (L0 : Addr) (s0 : Shared) (jv : Value) (ev av : Option Value) (nw : List (Addr × Obj)) (y : Str) (tgt : List Str) (i0 : Nat) : List Str → Shared → Prop
  | mk (h : Heap) (tk k : Nat) (t : Tok) (er : List Str) : Fr g L0 h (sldM a1 a2 M U (.int (k : Int) t) jv ev av) → News g L0 h nw → Es.drop k = er → k ≤ Es.length → er.dropWhile (· == y) = tgt → i0 ≤ k → LpE a1 a2 M U Es g L0 s0 jv ev av nw y tgt i0 er { s0 with heap := h, toks := tk }
inductive LpA (a1 a2 M U : Addr) (As : List Str) (g : Heap) (L0 : Addr) (s0 : Shared) (iv : Value) (ev av : Option Value) (nw : List (Addr × Obj)) (y : Str) (tgt : List Str) (j0 : Nat) : List Str → Shared → Prop
  | mk (h : Heap) (tk k : Nat) (t : Tok) (ar : List Str) : Fr g L0 h (sldM a1 a2 M U iv (.int (k : Int) t) ev av) → News g L0 h nw → As.drop k = ar → k ≤ As.length → ar.dropWhile (· == y) = tgt → j0 ≤ k → LpA a1 a2 M U As g L0 s0 iv ev av nw y tgt j0 ar { s0 with heap := h, toks := tk }
end
theorem c_sld : Wants PySem.Challenge.rw_in0077_01 Mine.K → ∀ (prog : Program) (w : World) (p : Program) (loose : List Str) (mean : ExcName → Option Value) (mg mb : Str → Option Value) (news : List (Addr × Obj)) (a1 a2 : Addr) (n1 n2 : Nat) (vE vA : List Value) (Es As : List Str), @Ne Nat a1 a2 → TextsAre vE Es → TextsAre vA As → Es.length ≤ 100 → As.length ≤ 100 →
  Claim0 prog w (Mine.K w.params) p loose mean mg mb ((a1, listOf vE.toArray n1) :: (a2, listOf vA.toArray n2) :: news) 30 500 (call (.ref 780) [.ref a1, .ref a2]) (fun v news' => ∃ T M U vm vu nm nu, v = .ref T ∧ TextsAre vm (sldL Es As [] []).1 ∧ TextsAre vu (sldL Es As [] []).2 ∧ news' = (T, tupD #[.ref M, .ref U]) :: (U, listOf (List.toArray vu) nu) :: (M, listOf (List.toArray vm) nm) :: (a1, listOf vE.toArray n1) :: (a2, listOf vA.toArray n2) :: news) := by
  k_fill
  intro hW prog w p loose mean mg mb news a1 a2 n1 n2 vE vA Es As hne hvE hvA hE1 hA1 dp un gd cn cs a ccd cl A₀ base h₀ L m s Q E B F X N T XB hk hd hu hret
  walk_at "ENTER0"
  obtain ⟨XB1, XB2⟩ := XB
  rename Fr _ _ _ (fun y => List.lookup y _) => F5
  replace F5 := fr_list F5 (show _ = [(Str.ofString "actual", Value.ref a2), (Str.ofString "expected", Value.ref a1)] by kernel_rfl)
  k_steps
  show WhlRest _ _ _ _ _ _ _ _ _ 0 _
  rename Fr _ _ _ _ => F9
  rename News _ _ _ _ => N9
  rename_i g0 L0 _ _ _ _ _ _ _ _ _ _ _ _ _ _ _ _ M _ _ _ _ _ _ _ _ _ U _ _ _ _ _ _ _ _ _
  have G0 : GrX (ktrTop dp un gd cn cs L a ccd cl []) (Mine.K w.params) p loose mean mg mb base [envX cn cs L a ccd cl] g0 g0 := ⟨by assumption, by assumption, by assumption, by assumption, KtsTurn.refl⟩
  have hlE : vE.length = Es.length := texts_len hvE
  have hlA : vA.length = As.length := texts_len hvA
  refine whl_ind (SldJ a1 a2 M U vE vA n1 n2 Es As news (sldL Es As [] []) g0 L0 s) (fun x => x.1.length + x.2.1.length) (by passes_own) ?_ (x := (Es, As, [], [])) ?_
  case refine_2 => exact .mk _ _ 0 0 _ _ [] [] _ _ none none _ _ _ _ (fr_eq F9 slm) N9 rfl rfl (Nat.zero_le _) (Nat.zero_le _) trivial trivial (Nat.le_refl _) (Nat.le_refl _) rfl
  case refine_1 =>
    clear F9 N9
    intro x0 s1 hJ
    induction hJ
    rename_i h1 tk i j ti tj vm vu nm nu ev av es as ms us F1 N1 hes has hi hj hm hu1 hlm hlu hR
    k_steps
    show wpAny _ _ _ _ _ _
    refine try_ix (P := SldUp a1 a2 M U vE vA n1 n2 Es As news (sldL Es As [] []) (GrX (ktrTop dp un gd cn cs L a ccd cl []) (Mine.K w.params) p loose mean mg mb base [envX cn cs L a ccd cl] g0) L0 s) ?_ ?_
    case refine_1 =>
      clear F1 N1 hes has hi hj hm hu1 hlm hlu hR
      intro _ s' hJ
      induction hJ
      rename_i ea g' h tk i j ti tj vm vu nm nu ev av es' as' ms' us' G hU hes has hi hj hm hu1 hlm hlu hR hend
      refine catch_any G hU XB1 XB2 (by k_is) (fun h' g'' G' F1 N1 => ?_) (by passes_own)
      obtain ⟨B', X', T', D', U'⟩ := G'
      k_steps
      dsimp only [WhlEnd]
      k_steps
      rename News h₀ _ _ _ => Nz
      rename Fr h₀ _ _ _ => Fz
      have hR2 := sldL_end hR hend
      refine hret _ _ _ _ ⟨_, _, _, _, _, _, _, rfl, ?_, ?_, rfl⟩ Fz (news_sub Nz (by walk_at "SUBM"))
      · rw [← hR2, ← hes]; exact texts_app hm (texts_drop _ hvE)
      · rw [← hR2, ← has]; exact texts_app hu1 (texts_drop _ hvA)
    case refine_2 =>
      intro E₂ hE2 hE3 hE4 hP
      cases es with
      | nil =>
        have ho := size_drop hvE hes
        k_steps
        with_reducible rename Heap.NewExc _ _ _ _ => x
        exact hP _ _ (sld_up G0 F1 .of N1 (NewX.of x) hes has hi hj hm hu1 hlm hlu hR (.inl rfl))
      | cons e er =>
        obtain ⟨te, he⟩ := at_drop hvE hes
        cases as with
        | nil =>
          have ho := size_drop hvA has
          k_steps
          with_reducible rename Heap.NewExc _ _ _ _ => x
          with_reducible rename Fr _ _ _ _ => F2
          with_reducible rename News _ _ _ _ => N2
          exact hP _ _ (sld_up G0 F2 ⟨_, _, _, _, slm⟩ N2 (NewX.of x) hes has hi hj hm hu1 hlm hlu hR (.inr rfl))
        | cons a ar =>
          obtain ⟨ta, ha⟩ := at_drop hvA has
          have hi1 := drop_succ hes
          have hj1 := drop_succ has
          have hi2 := drop_lt hes
          have hj2 := drop_lt has
          k_steps
          all_goals (first | (refine stop_open (?_ : WhlRest _ _ _ _ _ _ _ _ _ 0 _)) | (refine stop_open (?_ : wpAny _ _ _ _ _ _)))
          all_goals (with_reducible rename Fr _ _ _ _ => F2; with_reducible rename News _ _ _ _ => N2; (try rw [List.push_toArray] at N2))
          ·
            with_reducible rename _ < _ => hlt
            rw [sldL_lt hlt] at hR
            refine whl_ind (LpE a1 a2 M U Es g0 L0 s (.int (j : Int) tj) (some (.str e te)) (some (.str a ta)) _ e (er.dropWhile (· == e)) (i + 1)) (fun er => er.length) hE2 ?_ (x := er) (.mk _ _ (i + 1) _ _ (fr_eq F2 slm) N2 hi1 hi2 rfl (Nat.le_refl _))
            clear F2 N2
            intro er1 s1 hJ
            induction hJ
            rename_i h tk k t er1 F2 N2 hk hkl hkd hik
            cases er1 with
            | nil =>
              have ho := size_drop hvE hk
              k_steps
              with_reducible rename Heap.NewExc _ _ _ _ => x
              rw [← show [] = er.dropWhile (· == e) from hkd] at hR
              exact hP _ _ (sld_up G0 F2 .of N2 (NewX.of x) hk has hkl hj (hm.snoc ⟨_, rfl⟩) hu1 (by rw [List.length_append, List.length_singleton]; omega) hlu hR (.inl rfl))
            | cons y r =>
              obtain ⟨ty, hy⟩ := at_drop hvE hk
              k_steps
              cases hye : (y == e) with
              | true =>
                refine WhlIf.yes rfl ?_
                k_steps
                with_reducible rename Fr _ _ _ _ => F2
                with_reducible rename News _ _ _ _ => N2
                exact ⟨r, Nat.lt_succ_self _, .mk _ _ (k + 1) _ _ (fr_eq F2 slm) N2 (drop_succ hk) (drop_lt hk) ((dw_yes hye).symm.trans hkd) (by omega)⟩
              | false =>
                refine WhlIf.no rfl ?_
                k_steps
                with_reducible rename Fr _ _ _ _ => F2
                with_reducible rename News _ _ _ _ => N2
                have e2 := (dw_no hye).symm.trans hkd
                have e3 := dropWhile_len (· == e) er
                rw [← e2] at hR e3
                exact sld_turn F2 .of N2 hk has hkl hj (hm.snoc ⟨_, rfl⟩) hu1 (by rw [List.length_append, List.length_singleton]; omega) hlu hR (by simp only [List.length_cons] at e3 ⊢; omega)
          ·
            with_reducible rename ¬ _ < _ => hlt
            with_reducible rename _ < _ => hgt
            rw [sldL_gt hlt hgt] at hR
            refine whl_ind (LpA a1 a2 M U As g0 L0 s (.int (i : Int) ti) (some (.str e te)) (some (.str a ta)) _ a (ar.dropWhile (· == a)) (j + 1)) (fun er => er.length) hE2 ?_ (x := ar) (.mk _ _ (j + 1) _ _ (fr_eq F2 slm) N2 hj1 hj2 rfl (Nat.le_refl _))
            clear F2 N2
            intro er1 s1 hJ
            induction hJ
            rename_i h tk k t er1 F2 N2 hk hkl hkd hik
            cases er1 with
            | nil =>
              have ho := size_drop hvA hk
              k_steps
              with_reducible rename Heap.NewExc _ _ _ _ => x
              rw [← show [] = ar.dropWhile (· == a) from hkd] at hR
              exact hP _ _ (sld_up G0 F2 .of N2 (NewX.of x) hes hk hi hkl hm (hu1.snoc ⟨_, rfl⟩) hlm (by rw [List.length_append, List.length_singleton]; omega) hR (.inr rfl))
            | cons y r =>
              obtain ⟨ty, hy⟩ := at_drop hvA hk
              k_steps
              cases hye : (y == a) with
              | true =>
                refine WhlIf.yes rfl ?_
                k_steps
                with_reducible rename Fr _ _ _ _ => F2
                with_reducible rename News _ _ _ _ => N2
                exact ⟨r, Nat.lt_succ_self _, .mk _ _ (k + 1) _ _ (fr_eq F2 slm) N2 (drop_succ hk) (drop_lt hk) ((dw_yes hye).symm.trans hkd) (by omega)⟩
              | false =>
                refine WhlIf.no rfl ?_
                k_steps
                with_reducible rename Fr _ _ _ _ => F2
                with_reducible rename News _ _ _ _ => N2
                have e2 := (dw_no hye).symm.trans hkd
                have e3 := dropWhile_len (· == a) ar
                rw [← e2] at hR e3
                exact sld_turn F2 .of N2 hes hk hi hkl hm (hu1.snoc ⟨_, rfl⟩) hlm (by rw [List.length_append, List.length_singleton]; omega) hR (by simp only [List.length_cons] at e3 ⊢; omega)
          ·
            rw [sldL_eq (e := e) (a := a) (by with_reducible assumption) (by with_reducible assumption)] at hR
            refine try_fin (P := FinP a1 a2 M U Es g0 L0 s (.int (j : Int) tj) (some (.str e te)) (some (.str a ta)) ((U, listOf (List.toArray vu) nu) :: (M, listOf (List.toArray vm) nm) :: (a1, listOf vE.toArray n1) :: (a2, listOf vA.toArray n2) :: news) er e (i + 1)) hE2 ?_ ?_
            case refine_1 =>
              clear F2 N2
              intro _ s' hJ
              induction hJ
              rename_i ea h h2 tk k t F2 N2 x hk hkl hkd hik
              refine fin_first G0.b F2 N2 x XB1 XB2 G0.d G0.u (fun h' g' T oe oT u F3 N3 x3 y3 n1 n2 n3 b xg tg d => ?_) (hE3 _)
              rw [hkd] at hR
              clear F2 N2 x
              k_steps
              show WhlRest _ _ _ _ _ _ _ _ _ 0 _
              with_reducible rename Fr _ _ _ _ => F2
              with_reducible rename News _ _ _ _ => N2
              refine whl_ind (LpA a1 a2 M U As g' L0 s (.int (k : Int) t) (some (.str e te)) (some (.str a ta)) _ a (ar.dropWhile (· == a)) (j + 1)) (fun er => er.length) (hE4 _) ?_ (x := ar) (.mk _ _ (j + 1) _ _ (fr_eq F2 slm) N2 hj1 hj2 rfl (Nat.le_refl _))
              clear F2 N2
              intro er1 s1 hJ
              induction hJ
              rename_i h tk k2 t2 er1 F2 N2 hk2 hkl2 hkd2 hik2
              cases er1 with
              | nil =>
                have ho := size_drop hvA hk2
                k_steps
                with_reducible rename NewX _ _ _ _ _ => x
                rw [← show [] = ar.dropWhile (· == a) from hkd2] at hR
                exact hP _ _ (sld_up ⟨b, xg, tg, d, u⟩ F2 .of (news_tl (news_tl N2)) x hk hk2 hkl hkl2 hm hu1 (by omega) (by omega) hR (.inl rfl))
              | cons y r =>
                obtain ⟨ty, hy⟩ := at_drop hvA hk2
                k_steps
                cases hye : (y == a) with
                | true =>
                  refine WhlIf.yes rfl ?_
                  k_steps
                  with_reducible rename Fr _ _ _ _ => F2
                  with_reducible rename News _ _ _ _ => N2
                  exact ⟨r, Nat.lt_succ_self _, .mk _ _ (k2 + 1) _ _ (fr_eq F2 slm) N2 (drop_succ hk2) (drop_lt hk2) ((dw_yes hye).symm.trans hkd2) (by omega)⟩
                | false =>
                  refine WhlIf.no rfl ?_
                  k_steps
                  with_reducible rename Fr _ _ _ _ => F2
                  with_reducible rename News _ _ _ _ => N2
                  have e2 := (dw_no hye).symm.trans hkd2
                  rw [← e2] at hR
                  exact pass_on F2 N2 x3 y3 n1 n2 fun h3 oT3 F4 N4 y4 => hP _ _ (sld_held ⟨b, xg, tg, d, u⟩ F4 .of N4 x3 y4 n1 n2 hk hk2 hkl hkl2 hm hu1 (by omega) (by omega) hR (.inl rfl))
            case refine_2 =>
              intro E₃ hE5 hP3
              clear XB1 XB2
              k_steps
              show WhlRest _ _ _ _ _ _ _ _ _ 0 _
              refine whl_ind (LpE a1 a2 M U Es g0 L0 s (.int (j : Int) tj) (some (.str e te)) (some (.str a ta)) _ e (er.dropWhile (· == e)) (i + 1)) (fun er => er.length) hE5 ?_ (x := er) (.mk _ _ (i + 1) _ _ (fr_eq F2 slm) N2 hi1 hi2 rfl (Nat.le_refl _))
              clear F2 N2
              intro er1 s1 hJ
              induction hJ
              rename_i h tk k t er1 F2 N2 hk hkl hkd hik
              cases er1 with
              | nil =>
                have ho := size_drop hvE hk
                k_steps
                with_reducible rename Heap.NewExc _ _ _ _ => x
                exact hP3 _ _ (.mk _ _ _ _ k t F2 N2 (NewX.of x) hk hkl hkd.symm hik)
              | cons y r =>
                obtain ⟨ty, hy⟩ := at_drop hvE hk
                k_steps
                cases hye : (y == e) with
                | true =>
                  refine WhlIf.yes rfl ?_
                  k_steps
                  with_reducible rename Fr _ _ _ _ => F2
                  with_reducible rename News _ _ _ _ => N2
                  exact ⟨r, Nat.lt_succ_self _, .mk _ _ (k + 1) _ _ (fr_eq F2 slm) N2 (drop_succ hk) (drop_lt hk) ((dw_yes hye).symm.trans hkd) (by omega)⟩
                | false =>
                  refine WhlIf.no rfl ?_
                  have e2 := (dw_no hye).symm.trans hkd
                  have e3 := dropWhile_len (· == e) er
                  rw [← e2] at hR e3
                  clear hP3
                  k_steps
                  try refine ⟨rfl, ?_⟩
                  k_steps
                  show WhlRest _ _ _ _ _ _ _ _ _ 0 _
                  with_reducible rename Fr _ _ _ _ => F2
                  with_reducible rename News _ _ _ _ => N2
                  refine whl_ind (LpA a1 a2 M U As g0 L0 s (.int (k : Int) t) (some (.str e te)) (some (.str a ta)) _ a (ar.dropWhile (· == a)) (j + 1)) (fun er => er.length) hE2 ?_ (x := ar) (.mk _ _ (j + 1) _ _ (fr_eq F2 slm) N2 hj1 hj2 rfl (Nat.le_refl _))
                  clear F2 N2
                  intro er1 s1 hJ
                  induction hJ
                  rename_i h tk k2 t2 er1 F2 N2 hk2 hkl2 hkd2 hik2
                  cases er1 with
                  | nil =>
                    have ho := size_drop hvA hk2
                    k_steps
                    with_reducible rename Heap.NewExc _ _ _ _ => x
                    rw [← show [] = ar.dropWhile (· == a) from hkd2] at hR
                    exact hP _ _ (sld_up G0 F2 .of N2 (NewX.of x) hk hk2 hkl hkl2 hm hu1 (by omega) (by omega) hR (.inr rfl))
                  | cons y2 r2 =>
                    obtain ⟨ty2, hy2⟩ := at_drop hvA hk2
                    k_steps
                    cases hye2 : (y2 == a) with
                    | true =>
                      refine WhlIf.yes rfl ?_
                      k_steps
                      with_reducible rename Fr _ _ _ _ => F2
                      with_reducible rename News _ _ _ _ => N2
                      exact ⟨r2, Nat.lt_succ_self _, .mk _ _ (k2 + 1) _ _ (fr_eq F2 slm) N2 (drop_succ hk2) (drop_lt hk2) ((dw_yes hye2).symm.trans hkd2) (by omega)⟩
                    | false =>
                      refine WhlIf.no rfl ?_
                      k_steps
                      with_reducible rename Fr _ _ _ _ => F2
                      with_reducible rename News _ _ _ _ => N2
                      have e4 := (dw_no hye2).symm.trans hkd2
                      have e5 := dropWhile_len (· == a) ar
                      rw [← e4] at hR e5
                      exact sld_turn F2 .of N2 hk hk2 hkl hkl2 hm hu1 (by omega) (by omega) hR (by simp only [List.length_cons] at e3 e5 ⊢; omega)
end
section
open LCg
noncomputable def Bk (x : Str) (C : Addr) : Option Addr → Option Value → List (Addr × Obj) → Prop
  | none, v, CO => ∃ oC m₂, NsObj oC m₂ ∧ CO = [(C, oC)] ∧ ∀ u, v = some u → m₂ x = some u
  | some c, v, CO => ∃ oC m₂ oc, NsObj oC m₂ ∧ CO = [(C, oC), (c, oc)] ∧ oc.data = .cell v
noncomputable def bkAs (C : Addr) : Option Addr → List Addr
  | none => [C]
  | some c => [C, c]
noncomputable def TgtOk (e : Env) (x : Str) (C : Addr) : Option Addr → Prop
  | none => e.kindOf x = some .local
  | some c => e.kindOf x = some .cell ∧ e.cells.lookup x = some c ∧ C ≠ c
theorem Bk.as {x : Str} {C : Addr} {c : Option Addr} {v : Option Value} {CO : List (Addr × Obj)} (B : Bk x C c v CO) : CO.map (·.1) = bkAs C c := by
  cases c with
  | none => obtain ⟨_, _, _, rfl, _⟩ := B; rfl
  | some c => obtain ⟨_, _, _, _, rfl, _⟩ := B; rfl
theorem Bk.ns {x : Str} {C : Addr} {c : Option Addr} {v : Option Value} {CO : List (Addr × Obj)} (B : Bk x C c v CO) : ∃ oC m₂, NsObj oC m₂ ∧ (C, oC) ∈ CO := by
  cases c with
  | none => obtain ⟨oC, m₂, h, rfl, _⟩ := B; exact ⟨oC, m₂, h, .head _⟩
  | some c => obtain ⟨oC, m₂, _, h, rfl, _⟩ := B; exact ⟨oC, m₂, h, .head _⟩
variable {M : Model} {A : Around} {E : Value → Shared → Prop} {s : Shared} {h₀ : Heap} {L C : Addr} {m : Str → Option Value} {rest : List (Addr × Obj)}
theorem news_one {h h' : Heap} {a : Addr} {o o' : Obj} {pre post : List (Addr × Obj)} (N : News h₀ L h (pre ++ (a, o) :: post)) (h1 : ∀ p ∈ pre, p.1 ≠ a) (h2 : ∀ p ∈ post, p.1 ≠ a) (hs : Heap.SameBut a h h') (e : h'.get? a = some o') : News h₀ L h' (pre ++ (a, o') :: post) :=
  news_S N h1 h2 (fun b o hb e => hs.extBut b o hb e) e
theorem bk_assign {x : Str} {px : Pos} {cenv : Env} {c : Option Addr} {v₀ : Option Value} {v : Value} {CO : List (Addr × Obj)} {Q : Unit → Shared → Prop} (hl : cenv.locals = C) (hk : cenv.scope.kind = .function)
    (hx : TgtOk cenv x C c)
    (B : Bk x C c v₀ CO) (F : Fr h₀ L s.heap m) (N : News h₀ L s.heap (CO ++ rest)) (hap : ∀ p ∈ rest, ∀ a ∈ bkAs C c, p.1 ≠ a)
    (h : ∀ h' tk' CO', Bk x C c (some v) CO' → Fr h₀ L h' m → News h₀ L h' (CO' ++ rest) → Q () { s with heap := h', toks := tk' }) : wpAny M A (assign (.Name x px) cenv v) Q E s := by
  refine wpAny_assign_Name ?_
  cases c with
  | none =>
    obtain ⟨oC, m₂, hC, rfl, _⟩ := B
    have zC := N (C, oC) (.head _)
    refine wpAny_storeName_local hx (by rw [hl]; exact hC.ns zC.1) (fun h' hn hs => ?_) (by rw [hk]; simp)
    rw [hl] at hn hs
    obtain ⟨oC', e, hC'⟩ := ns_obj hn
    refine h h' _ [(C, oC')] ⟨oC', _, hC', rfl, fun u hu => by cases hu; simp⟩ (F.change hs zC.2.1 zC.2.2) ?_
    exact news_one (pre := []) N (fun _ hp => nomatch hp) (fun p hp => hap p hp C (.head _)) hs e
  | some c =>
    obtain ⟨oC, m₂, oc, hC, rfl, hd⟩ := B
    obtain ⟨x1, x2, x3⟩ := hx
    have zc := N (c, oc) (.tail _ (.head _))
    refine wpAny_storeName_cell hk x1 x2 ⟨oc, zc.1, hd⟩ fun h' hv hs => ?_
    obtain ⟨oc', e, hd'⟩ := hv
    refine h h' _ [(C, oC), (c, oc')] ⟨oC, m₂, oc', hC, rfl, hd'⟩ (F.change hs zc.2.1 zc.2.2) ?_
    exact news_one (pre := [(C, oC)]) N (fun p hp => by rw [List.mem_singleton.mp hp]; exact x3) (fun p hp => hap p hp c (.tail _ (.head _))) hs e
end
section
open LCg
noncomputable def IterObj (o : Obj) (l : Addr) (i : Nat) : Prop := o.cls = .type "list_iterator" ∧ o.data = .fields #[.ref l, .int i 0]
noncomputable def OffB (I D : Addr) (as : List Addr) (nw : List (Addr × Obj)) : Prop := ∀ p ∈ nw, @Ne Nat p.1 I ∧ @Ne Nat p.1 D ∧ ∀ a ∈ as, @Ne Nat p.1 a
variable {prog : Program} {w : World} {A : Around} {E : Value → Shared → Prop} {h₀ : Heap} {L C I D : Addr} {m : Str → Option Value} {env : Env}
inductive EndG (h₀ : Heap) (L : Addr) (m : Str → Option Value) (I D : Addr) (as : List Addr) (pre : List (Addr × Obj)) (s₁ : Shared) (K : Value → List (Addr × Obj) → Prop) (y : Value) (s₂ : Shared) : Prop
  | mk (nw : List (Addr × Obj)) (f0 : Fr h₀ L s₂.heap m) (f1 : News h₀ L s₂.heap (pre ++ nw)) (f2 : OffB I D as nw) (f3 : K y nw) (f4 : AllBare s₂.gens) (f5 : s₂.os = s₁.os)
noncomputable def TurnsG (prog : Program) (w : World) (A : Around) (h₀ : Heap) (L : Addr) (m : Str → Option Value) (elt : Expr) (x : Str) (mk : Addr → Option Addr → Env) (cel : Bool) (s₁ : Shared) (its : List Value) (J : Nat → List Value → List (Addr × Obj) → Prop) : Prop :=
  ∀ i v ys nw I oI D C c CO s₂ (E' : Value → Shared → Prop), c.isSome = cel → its[i]? = some v → oI.cls = .type "list_iterator" → J i ys nw → Bk x C c (some v) CO → Fr h₀ L s₂.heap m → News h₀ L s₂.heap ((I, oI) :: CO ++ (D, lst ys) :: nw) → OffB I D (bkAs C c) nw → (I :: D :: bkAs C c).Nodup → AllBare s₂.gens → s₂.os = s₁.os →
    wpAny (model prog w) A (eval elt (mk C c)) (EndG h₀ L m I D (bkAs C c) ((I, oI) :: CO ++ [(D, lst ys)]) s₁ (fun y nw' => J (i + 1) (ys ++ [y]) nw')) E' s₂
theorem turnsG_none {elt : Expr} {x : Str} {mk : Addr → Option Addr → Env} {s₁ : Shared} {its : List Value} {J : Nat → List Value → List (Addr × Obj) → Prop}
    (h : ∀ i v ys nw I oI D C oC m₂ s₂ (E' : Value → Shared → Prop), its[i]? = some v → oI.cls = .type "list_iterator" → J i ys nw → NsObj oC m₂ → m₂ x = some v → Fr h₀ L s₂.heap m → News h₀ L s₂.heap ((I, oI) :: (C, oC) :: (D, lst ys) :: nw) → OffB I D [C] nw → [I, D, C].Nodup → AllBare s₂.gens → s₂.os = s₁.os →
      wpAny (model prog w) A (eval elt (mk C none)) (EndG h₀ L m I D [C] [(I, oI), (C, oC), (D, lst ys)] s₁ (fun y nw' => J (i + 1) (ys ++ [y]) nw')) E' s₂) : TurnsG prog w A h₀ L m elt x mk false s₁ its J := by
  intro i v ys nw I oI D C c CO s₂ E' hc hv hcl hJ B F N off nd hg ho
  cases c with
  | some c => cases hc
  | none =>
    obtain ⟨oC, m₂, hC, rfl, hm⟩ := B
    exact h i v ys nw I oI D C oC m₂ s₂ E' hv hcl hJ hC (hm _ rfl) F N off nd hg ho
theorem turnsG_some {elt : Expr} {x : Str} {mk : Addr → Option Addr → Env} {s₁ : Shared} {its : List Value} {J : Nat → List Value → List (Addr × Obj) → Prop}
    (h : ∀ i v ys nw I oI D C c oC oc m₂ s₂ (E' : Value → Shared → Prop), its[i]? = some v → oI.cls = .type "list_iterator" → J i ys nw → NsObj oC m₂ → oc.data = .cell (some v) → Fr h₀ L s₂.heap m → News h₀ L s₂.heap ((I, oI) :: (C, oC) :: (c, oc) :: (D, lst ys) :: nw) → OffB I D [C, c] nw → [I, D, C, c].Nodup → AllBare s₂.gens → s₂.os = s₁.os →
      wpAny (model prog w) A (eval elt (mk C (some c))) (EndG h₀ L m I D [C, c] [(I, oI), (C, oC), (c, oc), (D, lst ys)] s₁ (fun y nw' => J (i + 1) (ys ++ [y]) nw')) E' s₂) : TurnsG prog w A h₀ L m elt x mk true s₁ its J := by
  intro i v ys nw I oI D C c CO s₂ E' hc hv hcl hJ B F N off nd hg ho
  cases c with
  | none => cases hc
  | some c =>
    obtain ⟨oC, m₂, oc, hC, rfl, hoc⟩ := B
    exact h i v ys nw I oI D C c oC oc m₂ s₂ E' hv hcl hJ hC hoc F N off nd hg ho
inductive BkInv (h₀ : Heap) (L : Addr) (m : Str → Option Value) (I D C : Addr) (c : Option Addr) (x : Str) (its : List Value) (l : Addr) (J : Nat → List Value → List (Addr × Obj) → Prop) (s₁ : Shared) (k : Nat) (s' : Shared) : Prop
  | mk (i : Nat) (ys : List Value) (nw : List (Addr × Obj)) (oI : Obj) (CO : List (Addr × Obj)) (v₀ : Option Value) (f0 : k = its.length + 1 - i) (f1 : i ≤ its.length) (f2 : ys.length = i) (f3 : IterObj oI l i) (f4 : Bk x C c v₀ CO) (f5 : Fr h₀ L s'.heap m) (f6 : News h₀ L s'.heap ((I, oI) :: CO ++ (D, lst ys) :: nw)) (f7 : OffB I D (bkAs C c) nw) (f8 : J i ys nw) (f9 : AllBare s'.gens) (g : s'.os = s₁.os)
theorem bk_loop {elt iter : Expr} {x : Str} {px : Pos} {scope : Scope} {pos : Pos} {c : Option Addr} {mk : Addr → Option Addr → Env} {cel : Bool} {its : List Value} {nl : Nat} {l : Addr} {J : Nat → List Value → List (Addr × Obj) → Prop} {s₁ s : Shared} {R : Result → Shared → Prop} (hh : A.handled = none)
    (hl : (mk C c).locals = C) (hk : (mk C c).scope.kind = .function) (hx : TgtOk (mk C c) x C c)
    (hc : c.isSome = cel) (hmem : ∀ i ys nw, J i ys nw → (l, listOf its.toArray nl) ∈ nw) (hsz : its.length ≤ sizeLine) (T : TurnsG prog w A h₀ L m elt x mk cel s₁ its J)
    (hnd : (I :: D :: bkAs C c).Nodup) {oI : Obj} {CO nw : List (Addr × Obj)} {v₀ : Option Value} (hI : IterObj oI l 0) (B : Bk x C c v₀ CO) (F : Fr h₀ L s.heap m) (N : News h₀ L s.heap ((I, oI) :: CO ++ (D, lst []) :: nw)) (hoff : OffB I D (bkAs C c) nw) (hJ : J 0 [] nw)
    (hg : AllBare s.gens) (ho : s.os = s₁.os)
    (hR : ∀ ys nw CO v s₂, J its.length ys nw → Bk x C c v CO → Fr h₀ L s₂.heap m → News h₀ L s₂.heap (CO ++ (D, lst ys) :: nw) → OffB I D (bkAs C c) nw → AllBare s₂.gens → s₂.os = s₁.os → R (.ok .next) s₂) :
    codeAny (model prog w) A (.compLoop (.ListComp elt [⟨.Name x px, iter, [], 0⟩] scope pos) 0 (.ref I) (.ref D) (mk C c)) R s := by
  have nd := List.nodup_cons.mp hnd
  have ndD := List.nodup_cons.mp nd.2
  refine codeAny_compLoop_tests (BkInv h₀ L m I D C c x its l J s₁) ?_ (its.length + 1) ⟨0, [], nw, oI, CO, v₀, rfl, Nat.zero_le _, rfl, hI, B, F, N, hoff, hJ, hg, ho⟩
  rintro k s' ⟨i, ys, nw, oI, CO, v₀, rfl, hi, hyl, hI, B, F, N, hoff, hJ, hg, ho⟩
  have hml := hmem i ys nw hJ
  have zI := N (I, oI) (.head _)
  have zl := N _ (List.mem_append_right _ (List.mem_cons_of_mem _ hml))
  have hIl : l ≠ I := (hoff _ hml).1
  have W := Walks.list (prog := prog) (w := w) hh I l hIl its.toArray
  have hst : s'.heap.IsListIter I l i ∧ s'.heap.IsList l its.toArray := ⟨⟨oI, zI.1, hI⟩, ⟨_, zl.1, rfl, nl, rfl⟩⟩
  have asI : I ∉ bkAs C c := fun h => nd.1 (List.mem_cons_of_mem _ h)
  have asD : D ∉ bkAs C c := ndD.1
  have hID : I ≠ D := fun h => nd.1 (h ▸ List.mem_cons_self)
  have coI : ∀ {v : Option Value} {CO : List (Addr × Obj)}, Bk x C c v CO → ∀ p ∈ CO, p.1 ≠ I := fun B p hp h => asI (B.as ▸ h ▸ List.mem_map_of_mem hp)
  have coD : ∀ {v : Option Value} {CO : List (Addr × Obj)}, Bk x C c v CO → ∀ p ∈ CO, p.1 ≠ D := fun B p hp h => asD (B.as ▸ h ▸ List.mem_map_of_mem hp)
  have tail : ∀ {h₂ : Heap}, (∀ b o, b ∉ [I] → s'.heap.get? b = some o → h₂.get? b = some o) → Fr h₀ L h₂ m ∧ News h₀ L h₂ (CO ++ (D, lst ys) :: nw) := fun hk₂ =>
    ⟨fr_but F hk₂ (Ne.symm zI.2.1) zI.2.2, news_but (fun q hq => N q (List.mem_cons_of_mem _ hq)) hk₂ (fa (coI B) (fc (Ne.symm hID) fun p hp => (hoff p hp).1))⟩
  by_cases hlt : i < its.length
  · refine W.item i _ _ _ (by simpa using hlt) hst fun v h₂ tk₂ hPv hst₂ hk₂ => ?_
    have hv : its[i]? = some v := by simpa using hPv
    obtain ⟨F₂, N₂⟩ := tail hk₂
    obtain ⟨⟨oI₂, eI₂, hI₂⟩, _⟩ := hst₂
    have NI : News h₀ L h₂ ((I, oI₂) :: (CO ++ (D, lst ys) :: nw)) := fc ⟨eI₂, zI.2⟩ N₂
    have NI2 : News h₀ L h₂ (CO ++ ((I, oI₂) :: (D, lst ys) :: nw)) := news_sub NI (fa (fun q h => .tail _ (List.mem_append_left _ h)) (fc (.head _) (fc (.tail _ (List.mem_append_right _ (.head _))) fun q h => .tail _ (List.mem_append_right _ (.tail _ h)))))
    refine bk_assign hl hk hx B (s := { s' with heap := h₂, toks := tk₂ }) F₂ NI2 (fun p hp a ha => ?_) fun h₃ tk₃ CO₃ B₃ F₃ N₃ => ?_
    · rcases List.mem_cons.mp hp with rfl | hp
      · exact fun h => asI (by rw [show I = a from h]; exact ha)
      · rcases List.mem_cons.mp hp with rfl | hp
        · exact fun h => asD (by rw [show D = a from h]; exact ha)
        · exact (hoff p hp).2.2 a ha
    refine wpAny_tests_nil ?_
    simp only [if_true]
    have N₄ : News h₀ L h₃ ((I, oI₂) :: CO₃ ++ (D, lst ys) :: nw) := news_sub N₃ (fa (fc (List.mem_append_right _ (.head _)) fun q h => List.mem_append_left _ h) (fc (List.mem_append_right _ (.tail _ (.head _))) fun q h => List.mem_append_right _ (.tail _ (.tail _ h))))
    refine wpAny_mono (T i v ys nw I oI₂ D C c CO₃ { s' with heap := h₃, toks := tk₃ } _ hc hv hI₂.1 hJ B₃ F₃ N₄ hoff hnd hg ho) (fun y s₄ h₄ => ?_) fun _ _ e => e
    obtain ⟨nw₄, F₄, N₄, off₄, hJ₄, hg₄, ho₄⟩ := h₄
    have zD := N₄ (D, lst ys) (List.mem_append_left _ (List.mem_append_right _ (.head _)))
    refine append_at (hsz := by show ys.toArray.size ≤ sizeLine; rw [List.size_toArray, hyl]; exact Nat.le_trans (Nat.le_of_lt hlt) hsz) zD.1 fun h₅ hs₅ hD₅ => ?_
    have B₅ := B₃
    refine ⟨its.length + 1 - (i + 1), by omega, i + 1, ys ++ [y], nw₄, oI₂, CO₃, some v, rfl, hlt, by rw [List.length_append, List.length_singleton, hyl], hI₂, B₅, F₄.change hs₅ zD.2.1 zD.2.2, ?_, off₄, hJ₄, hg₄, ho₄⟩
    have N₅ : News h₀ L s₄.heap (((I, oI₂) :: CO₃) ++ (D, lst ys) :: nw₄) := fun q hq => N₄ q (by simpa using hq)
    exact news_one N₅ (fc hID (coD B₃)) (fun p hp => (off₄ p hp).2.1) hs₅ (hD₅.trans (congrArg some (lst_snoc ys y)))
  · obtain rfl : i = its.length := Nat.le_antisymm hi (Nat.not_lt.mp hlt)
    refine W.done _ _ _ (by simpa using hst) fun h₂ tk₂ hk₂ => ?_
    obtain ⟨F₂, N₂⟩ := tail hk₂
    exact hR ys nw CO v₀ { s' with heap := h₂, toks := tk₂ } hJ B F₂ N₂ hoff hg ho
noncomputable def mkEnv (scope : Scope) (cl : List (Str × Addr)) (x : Str) (env : Env) (C : Addr) : Option Addr → Env
  | none => compEnvC scope cl C env
  | some c => compEnvC scope ((x, c) :: cl) C env
noncomputable def ScopeOk (scope : Scope) (cl : List (Str × Addr)) (x : Str) (env : Env) : Bool → Prop
  | false => (∀ y ∈ scope.names, y.2 ≠ .cell) ∧ scope.names.lookup x = some .local
  | true => (∀ a, cellsFrom a scope.names cl = (x, a) :: cl) ∧ (∀ h, pushCells h scope.names = h.push { cls := .type "cell", data := .cell none }) ∧ (relabel scope env).names.lookup x = some .cell
noncomputable def mWith (m : Str → Option Value) (D : Addr) : Option (Str × Pos) → Str → Option Value
  | none => m
  | some q => fun z => if z = q.1 then some (.ref D) else m z
noncomputable def vWith (D : Addr) : Option (Str × Pos) → Value
  | none => .ref D
  | some _ => .none
inductive SrcG (prog : Program) (w : World) (A : Around) (h₀ : Heap) (L : Addr) (m : Str → Option Value) (env : Env) (elt : Expr) (x : Str) (scope : Scope) (cl : List (Str × Addr)) (cel : Bool) (u : Option (Str × Pos)) (Q : Value → Shared → Prop) (xv : Value) (s₁ : Shared) : Prop
  | mk (l : Addr) (its : List Value) (nl : Nat) (nw : List (Addr × Obj)) (J : Nat → List Value → List (Addr × Obj) → Prop) (f0 : xv = .ref l) (f1 : Fr h₀ L s₁.heap m) (f2 : News h₀ L s₁.heap nw) (f3 : its.length ≤ sizeLine) (f4 : AllBare s₁.gens) (f5 : J 0 [] nw) (f6 : (∀ i ys nw, J i ys nw → (l, listOf its.toArray nl) ∈ nw)) (f7 : TurnsG prog w A h₀ L m elt x (mkEnv scope cl x env) cel s₁ its J) (f8 : ∀ ys nw D s₂, J its.length ys nw → Fr h₀ L s₂.heap (mWith m D u) → News h₀ L s₂.heap ((D, lst ys) :: nw) → (∀ p ∈ nw, @Ne Nat p.1 D) → AllBare s₂.gens → s₂.os = s₁.os → Q (vWith D u) s₂)
theorem comp_core {elt iter : Expr} {x : Str} {px : Pos} {scope : Scope} {cl : List (Str × Addr)} {pos : Pos} {s : Shared} {Q : Value → Shared → Prop} (cel : Bool) (u : Option (Str × Pos)) (hh : A.handled = none)
    (hclos : closureFor scope env = pure cl) (hkind : scope.kind = .function) (hnames : ∀ y ∈ scope.names, y.2 = .local → scope.names.lookup y.1 = some .local) (hsc : ScopeOk scope cl x env cel)
    (hu : ∀ q, u = some q → env.locals = L ∧ env.kindOf q.1 = some .local ∧ (env.scope.kind == .class || (env.scope.kind == .module && env.locals != env.globals)) = false)
    (h : wpAny (model prog w) A (eval iter env) (SrcG prog w A h₀ L m env elt x scope cl cel u Q) E s)
    (hs : ∀ x, foldedSetIterable iter env x = pure x) :
    wpAny (model prog w) A (comprehension (.ListComp elt [⟨.Name x px, iter, [], 0⟩] scope pos) scope env iter.pos (newList []) false (eval iter env) (u.map fun q => assign (.Name q.1 q.2) env)) Q E s := by
  refine wpAny_comprehension_free rfl hs hclos hkind hnames (wpAny_mono h (fun xv s₁ h₁ => ?_) fun _ _ e => e)
  obtain ⟨l, its, nl, nw, J, rfl, F, N, hsz, hg, hJ, hmem, T, fin⟩ := h₁
  have hl : s₁.heap.IsList l its.toArray := ⟨_, (N _ (hmem _ _ _ hJ)).1, rfl, nl, rfl⟩
  refine wpAny_pyIter_list hl ?_
  refine wpAny_newObj_type ?_
  generalize hH2 : (s₁.heap.push { cls := .type "list_iterator", data := .fields #[.ref l, .int 0 0] }).push { cls := .type "list", dict := none, data := .seq ([] : List Value).toArray } = H2
  have sz2 : H2.objs.size = s₁.heap.objs.size + 2 := by rw [← hH2, Heap.size_push, Heap.size_push]
  have up : ∀ b o, s₁.heap.get? b = some o → H2.get? b = some o := fun b o e => hH2 ▸ Heap.get?_push_of_some _ (Heap.get?_push_of_some _ e)
  have eI : H2.get? s₁.heap.objs.size = some { cls := .type "list_iterator", data := .fields #[.ref l, .int 0 0] } := hH2 ▸ Heap.get?_push_of_some _ (Heap.get?_push_size _ rfl)
  have eD : H2.get? (s₁.heap.objs.size + 1) = some (lst []) := by
    have q := Heap.get?_push_size (s₁.heap.push { cls := .type "list_iterator", data := .fields #[.ref l, .int 0 0] }) (o := { cls := .type "list", dict := none, data := .seq ([] : List Value).toArray }) rfl
    rw [Heap.size_push] at q
    exact hH2 ▸ q
  have le12 : s₁.heap.objs.size ≤ H2.objs.size := by rw [sz2]; exact Nat.le_add_right _ _
  have Llt : L < s₁.heap.objs.size := F.ns.lt
  have fresh : ∀ a, s₁.heap.objs.size ≤ a → h₀.get? a = none := fun a ha => Heap.get?_none_of_le (Nat.le_trans F.above (Nat.le_of_lt (Nat.lt_of_lt_of_le Llt ha)))
  have nlt : ∀ p ∈ nw, p.1 < s₁.heap.objs.size := fun p hp => Heap.lt_size (N p hp).1
  have key : ∀ (c : Option Addr) (H3 : Heap) (CO : List (Addr × Obj)) (tk : Nat), c.isSome = cel → (∀ b o, H2.get? b = some o → H3.get? b = some o) → Bk x H2.objs.size c none CO → (∀ p ∈ CO, H3.get? p.1 = some p.2) → (∀ a ∈ bkAs H2.objs.size c, H2.objs.size ≤ a) → (bkAs H2.objs.size c).Nodup →
      TgtOk (mkEnv scope cl x env H2.objs.size c) x H2.objs.size c → (mkEnv scope cl x env H2.objs.size c).locals = H2.objs.size → (mkEnv scope cl x env H2.objs.size c).scope.kind = .function →
      codeAny (model prog w) A (.compStart (.ListComp elt [⟨.Name x px, iter, [], 0⟩] scope pos) 0 (.ref s₁.heap.objs.size) (.ref (s₁.heap.objs.size + 1)) (mkEnv scope cl x env H2.objs.size c)) (compPost (model prog w) A E (u.map fun q => assign (.Name q.1 q.2) env) Q (.ref (s₁.heap.objs.size + 1)) H2.objs.size) { s₁ with heap := H3, toks := tk } := by
    intro c H3 CO tk hc up3 B eCO hge hnd hx hl hk
    have F3 : Fr h₀ L H3 m := F.keeps fun b o e => up3 b o (up b o e)
    have N3 : News h₀ L H3 ((s₁.heap.objs.size, { cls := .type "list_iterator", data := .fields #[.ref l, .int 0 0] }) :: CO ++ (s₁.heap.objs.size + 1, lst []) :: nw) := fa (fc ⟨up3 _ _ eI, Nat.ne_of_gt Llt, fresh _ (Nat.le_refl _)⟩ fun q hq =>
        have hq1 : H2.objs.size ≤ q.1 := hge _ (B.as ▸ List.mem_map_of_mem hq)
        ⟨eCO q hq, Nat.ne_of_gt (Nat.lt_of_lt_of_le Llt (Nat.le_trans le12 hq1)), fresh _ (Nat.le_trans le12 hq1)⟩)
      (fc ⟨up3 _ _ eD, Nat.ne_of_gt (Nat.lt_succ_of_lt Llt), fresh _ (Nat.le_succ _)⟩ fun q hq => ⟨up3 _ _ (up _ _ (N q hq).1), (N q hq).2⟩)
    have hoff : OffB s₁.heap.objs.size (s₁.heap.objs.size + 1) (bkAs H2.objs.size c) nw := fun p hp => by
      have := nlt p hp
      exact ⟨Nat.ne_of_lt this, Nat.ne_of_lt (Nat.lt_succ_of_lt this), fun a ha => Nat.ne_of_lt (Nat.lt_of_lt_of_le this (Nat.le_trans le12 (hge a ha)))⟩
    have nd : (s₁.heap.objs.size :: (s₁.heap.objs.size + 1) :: bkAs H2.objs.size c).Nodup := by
      refine List.nodup_cons.mpr ⟨fun hm => ?_, List.nodup_cons.mpr ⟨fun hm => ?_, hnd⟩⟩
      · rcases List.mem_cons.mp hm with h | h
        · omega
        · have := hge _ h; omega
      · have := hge _ hm; omega
    have loop : codeAny (model prog w) A (.compLoop (.ListComp elt [⟨.Name x px, iter, [], 0⟩] scope pos) 0 (.ref s₁.heap.objs.size) (.ref (s₁.heap.objs.size + 1)) (mkEnv scope cl x env H2.objs.size c)) (compPost (model prog w) A E (u.map fun q => assign (.Name q.1 q.2) env) Q (.ref (s₁.heap.objs.size + 1)) H2.objs.size) { s₁ with heap := H3, toks := tk } := by
      refine bk_loop (mk := mkEnv scope cl x env) (s₁ := s₁) hh hl hk hx hc hmem hsz T nd ⟨rfl, rfl⟩ B F3 N3 hoff hJ hg rfl fun ys nw' CO' v s₂ hJ' B' F' N' off' hg' ho' => ?_
      obtain ⟨oC, m₂, hC, hCm⟩ := B'.ns
      have zC := N' _ (List.mem_append_left _ hCm)
      have hCa : H2.objs.size ∈ bkAs H2.objs.size c := B'.as ▸ List.mem_map_of_mem hCm
      have offD : ∀ q ∈ (s₁.heap.objs.size + 1, lst ys) :: nw', q.1 ≠ H2.objs.size := fc (show s₁.heap.objs.size + 1 ≠ H2.objs.size by omega) fun q hq => (off' q hq).2.2 _ hCa
      have last : ∀ (s₃ : Shared) (h'' : Heap), s₃.heap.get? H2.objs.size = some oC → Fr h₀ L s₃.heap (mWith m (s₁.heap.objs.size + 1) u) → News h₀ L s₃.heap ((s₁.heap.objs.size + 1, lst ys) :: nw') → AllBare s₃.gens → s₃.os = s₁.os → Heap.SameBut H2.objs.size s₃.heap h'' → Q (vWith (s₁.heap.objs.size + 1) u) { s₃ with heap := h'' } := fun s₃ h'' _ F₃ N₃ hg₃ ho₃ hs'' =>
        fin ys nw' _ _ hJ' (F₃.change hs'' zC.2.1 zC.2.2) (fun q hq => ⟨hs''.extBut _ _ (offD q hq) (N₃ q hq).1, (N₃ q hq).2⟩) (fun p hp => (off' p hp).2.1) hg₃ ho₃
      have Nt : News h₀ L s₂.heap ((s₁.heap.objs.size + 1, lst ys) :: nw') := fun q hq => N' q (List.mem_append_right _ hq)
      cases u with
      | none => exact ⟨m₂, hC.ns zC.1, fun h'' hs'' => last s₂ h'' zC.1 F' Nt hg' ho' hs''⟩
      | some q =>
        obtain ⟨rfl, hq1, hq2⟩ := hu q rfl
        show wpAny _ A (assign (.Name q.1 q.2) env (.ref (s₁.heap.objs.size + 1))) _ _ _
        refine wpAny_assign_Name (wpAny_storeName_local hq1 F'.ns (fun h₄ hn₄ hs₄ => ?_) hq2)
        have F₄ : Fr h₀ env.locals h₄ (fun z => if z = q.1 then some (.ref (s₁.heap.objs.size + 1)) else m z) := F'.set hn₄ hs₄
        have e₄ : h₄.get? H2.objs.size = some oC := hs₄.extBut _ _ zC.2.1 zC.1
        exact ⟨m₂, hC.ns e₄, fun h'' hs'' => last { s₂ with heap := h₄, toks := s₂.toks + 1 } h'' e₄ F₄ (Nt.set hs₄) hg' ho' hs''⟩
    exact codeAny_compStart_list loop (wpAny_pyIter_listiter ⟨_, up3 _ _ eI, rfl, rfl⟩ loop)
  cases cel with
  | false =>
    refine wpAny_newFunctionEnv hsc.1 (by intro y hy; simp at hy) (fun h₁ hns hsb => ?_) hkind
    dsimp only at hns hsb ⊢
    rw [Heap.size_push]
    obtain ⟨oC, eC, hC⟩ := ns_obj hns
    exact key none h₁ [(H2.objs.size, oC)] _ rfl (fun b o e => hsb.extBut b o (Nat.ne_of_lt (Heap.lt_size e)) (Heap.get?_push_of_some _ e)) ⟨oC, _, hC, rfl, fun _ h => nomatch h⟩ (fun p hp => by rw [List.mem_singleton.mp hp]; exact eC) (fun a ha => by rw [List.mem_singleton.mp ha]; exact Nat.le_refl _) (by simp [bkAs]) (lookup_relabel_local hsc.2) rfl hkind
  | true =>
    obtain ⟨c1, c2, c3⟩ := hsc
    simp only [newFunctionEnv, Option.isSome_some, if_true]
    refine wpAny_bind (wpAny_alloc ?_)
    refine wpAny_bind (wpAny_layCells _ (fun name kind cells => by cases hkc : kind == NameKind.cell <;> simp [hkc]) _ _ _ _ ?_)
    rw [c1, c2]
    simp only [List.forIn_nil]
    refine wpAny_bind (wpAny_pure ?_)
    refine wpAny_pure ?_
    dsimp only
    rw [Heap.size_push, Heap.size_push]
    have eC := Heap.get?_push_size H2 (o := { cls := .type "dict", data := .dict #[] }) rfl
    have ec := Heap.get?_push_size (H2.push { cls := .type "dict", data := .dict #[] }) (o := { cls := .type "cell", data := .cell none }) rfl
    rw [Heap.size_push] at ec
    obtain ⟨oC, eC', hC⟩ := ns_obj (Heap.Ns.new H2 (.type "dict"))
    refine key (some (H2.objs.size + 1)) _ [(H2.objs.size, oC), (H2.objs.size + 1, { cls := .type "cell", data := .cell none })] _ rfl (fun b o e => Heap.get?_push_of_some _ (Heap.get?_push_of_some _ e)) ⟨oC, _, _, hC, rfl, rfl⟩ ?_ ?_ ?_ ⟨c3, by simp [mkEnv, compEnvC], Nat.ne_of_lt (Nat.lt_succ_self _)⟩ rfl hkind
    · intro p hp
      rcases List.mem_cons.mp hp with rfl | hp
      · exact Heap.get?_push_of_some _ eC'
      · rw [List.mem_singleton.mp hp]; exact ec
    · intro a ha
      rcases List.mem_cons.mp ha with rfl | ha
      · exact Nat.le_refl _
      · rw [List.mem_singleton.mp ha]; exact Nat.le_succ _
    · exact List.nodup_cons.mpr ⟨fun h => by rw [List.mem_singleton] at h; exact absurd h (Nat.ne_of_lt (Nat.lt_succ_self _)), by simp⟩
theorem comp_own {elt iter : Expr} {x : Str} {px : Pos} {scope : Scope} {cl : List (Str × Addr)} {pos : Pos} {s : Shared} {Q : Value → Shared → Prop} (cel : Bool) (_F₀ : Fr h₀ L s.heap m) (hh : A.handled = none)
    (hclos : closureFor scope env = pure cl) (hkind : scope.kind = .function) (hnames : ∀ y ∈ scope.names, y.2 = .local → scope.names.lookup y.1 = some .local) (hsc : ScopeOk scope cl x env cel)
    (h : wpAny (model prog w) A (eval iter env) (SrcG prog w A h₀ L m env elt x scope cl cel none Q) E s)
    (hs : ∀ x, foldedSetIterable iter env x = pure x := by intro _; rfl) :
    wpAny (model prog w) A (eval (.ListComp elt [⟨.Name x px, iter, [], 0⟩] scope pos) env) Q E s := by
  rw [eval_ListComp]
  exact comp_core cel none hh hclos hkind hnames hsc (fun _ h => nomatch h) h hs
theorem comp_asg {elt iter : Expr} {x y : Str} {px py : Pos} {scope : Scope} {cl : List (Str × Addr)} {pos spos : Pos} {s : Shared} {Q : Flow → Shared → Prop} (cel : Bool) (_F₀ : Fr h₀ L s.heap m) (hLe : env.locals = L) (hh : A.handled = none)
    (hsw : swapsWith (.ListComp elt [⟨.Name x px, iter, [], 0⟩] scope pos) (some (.Name y py)) spos.line env = pure true)
    (hclos : closureFor scope env = pure cl) (hkind : scope.kind = .function) (hnames : ∀ y ∈ scope.names, y.2 = .local → scope.names.lookup y.1 = some .local) (hsc : ScopeOk scope cl x env cel)
    (hy : env.kindOf y = some .local) (hp : (env.scope.kind == .class || (env.scope.kind == .module && env.locals != env.globals)) = false)
    (h : wpAny (model prog w) A (eval iter env) (SrcG prog w A h₀ L m env elt x scope cl cel (some (y, py)) (fun _ s' => Q .next s')) E s)
    (hs : ∀ x, foldedSetIterable iter env x = pure x := by intro _; rfl) :
    wpAny (model prog w) A (exec (.Assign [.Name y py] (.ListComp elt [⟨.Name x px, iter, [], 0⟩] scope pos) spos) env) Q E s := by
  rw [exec_Assign_Name_used _ _ _ _ hsw]
  refine wpAny_bind (wpAny_standAt (wpAny_bind ?_))
  show wpAny _ A (do let _ ← comprehension (.ListComp elt [⟨.Name x px, iter, [], 0⟩] scope pos) scope env iter.pos (newList []) false (eval iter env) (some (assign (.Name y py) env))) _ _ s
  refine wpAny_bind (wpAny_mono (comp_core (Q := fun _ s' => Q .next s') cel (some (y, py)) hh hclos hkind hnames hsc (fun q hq => by cases hq; exact ⟨hLe, hy, hp⟩) h hs) (fun _ s' hq => wpAny_pure (wpAny_pure hq)) fun _ _ e => e)
end
section
open LCg
variable {prog : Program} {w : World} {A : Around} {E : Value → Shared → Prop} {h₀ : Heap} {L C I D : Addr} {m : Str → Option Value} {env : Env}
theorem compTurn_two1 (elt t1 i1 c1 t2 i2 : Expr) (scope : Scope) (pos : Pos) (it acc : Value) (env : Env) :
    compTurn (.ListComp elt [⟨t1, i1, [c1], 0⟩, ⟨t2, i2, [], 0⟩] scope pos) 1 it acc env = (do
      standAt i2.pos
      match ← pyNext it with
      | none => pure (.done .next)
      | some v =>
        letOwnedTupleGo t2 it v
        assign t2 env v
        (do let _ ← call (.builtin "list.append") [acc, ← eval elt env])
        again (.compLoop (.ListComp elt [⟨t1, i1, [c1], 0⟩, ⟨t2, i2, [], 0⟩] scope pos) 1 it acc env)) := by rfl
theorem compTurn_two0 (elt t1 i1 c1 t2 i2 : Expr) (scope : Scope) (pos : Pos) (it acc : Value) (env : Env) :
    compTurn (.ListComp elt [⟨t1, i1, [c1], 0⟩, ⟨t2, i2, [], 0⟩] scope pos) 0 it acc env = (do
      standAt i1.pos
      match ← pyNext it with
      | none => pure (.done .next)
      | some v =>
        letOwnedTupleGo t1 it v
        assign t1 env v
        let mut ok := true
        for c in [c1] do
          if ok then ok ← isTrue c env (eval c env)
        if ok then
          let x ← eval i2 env
          standAt i2.pos
          let x ← foldedSetIterable i2 env x
          let _ ← runOwn (.compStart (.ListComp elt [⟨t1, i1, [c1], 0⟩, ⟨t2, i2, [], 0⟩] scope pos) 1 (← holding [x] (pyIter x)) acc env) env
        again (.compLoop (.ListComp elt [⟨t1, i1, [c1], 0⟩, ⟨t2, i2, [], 0⟩] scope pos) 0 it acc env)) := by rfl
noncomputable abbrev rgObj (a left : Int) : Obj := { cls := .type "range_iterator", dict := none, data := .fields #[rawInt a, rawInt left, rawInt 1], slots := #[] }
inductive InInv (h₀ : Heap) (L : Addr) (m : Str → Option Value) (I2 I C D : Addr) (x : Str) (n : Nat) (v : Value) (ys : List Value) (nw : List (Addr × Obj)) (oI : Obj) (s₁ : Shared) (k : Nat) (s' : Shared) : Prop
  | mk (j : Nat) (oC : Obj) (m₂ : Str → Option Value) (f0 : k = n + 1 - j) (f1 : j ≤ n) (f2 : NsObj oC m₂) (f3 : m₂ x = some v) (f4 : Fr h₀ L s'.heap m) (f5 : News h₀ L s'.heap ((I2, rgObj (0 + (j : Nat) * 1) ((n : Int) - (j : Nat))) :: (I, oI) :: (C, oC) :: (D, lst (ys ++ List.replicate j v)) :: nw)) (f6 : AllBare s'.gens) (f7 : s'.os = s₁.os)
theorem in_loop {x y : Str} {px py pe : Pos} {iter iter2 ct : Expr} {scope : Scope} {cl : List (Str × Addr)} {pos : Pos} {n : Nat} {v : Value} {ys : List Value} {nw : List (Addr × Obj)} {I2 : Addr} {oI oC : Obj} {m₂ : Str → Option Value} {s₁ s : Shared} {R : Result → Shared → Prop} (hh : A.handled = none)
    (hk : (compEnvC scope cl C env).scope.kind = .function) (hx : (compEnvC scope cl C env).kindOf x = some .local) (hy : (compEnvC scope cl C env).kindOf y = some .local) (hxy : x ≠ y) (hdx : (x == ("__debug__" : Str)) = false)
    (nI : I2 ≠ I) (nC : I2 ≠ C) (nD : I2 ≠ D) (nIC : I ≠ C) (nID : I ≠ D) (nCD : C ≠ D) (hoff : ∀ p ∈ nw, p.1 ≠ I2 ∧ p.1 ≠ I ∧ p.1 ≠ C ∧ p.1 ≠ D) (hsz : ys.length + n ≤ sizeLine)
    (F : Fr h₀ L s.heap m) (N : News h₀ L s.heap ((I2, rgObj 0 n) :: (I, oI) :: (C, oC) :: (D, lst ys) :: nw)) (hC : NsObj oC m₂) (hv : m₂ x = some v) (hg : AllBare s.gens) (ho : s.os = s₁.os)
    (hR : ∀ s₂ oC' m₂', NsObj oC' m₂' → m₂' x = some v → Fr h₀ L s₂.heap m → News h₀ L s₂.heap ((I, oI) :: (C, oC') :: (D, lst (ys ++ List.replicate n v)) :: nw) → AllBare s₂.gens → s₂.os = s₁.os → R (.ok .next) s₂) :
    codeAny (model prog w) A (.compLoop (.ListComp (.Name x pe) [⟨.Name x px, iter, [ct], 0⟩, ⟨.Name y py, iter2, [], 0⟩] scope pos) 1 (.ref I2) (.ref D) (compEnvC scope cl C env)) R s := by
  refine codeAny_loop rfl (InInv h₀ L m I2 I C D x n v ys nw oI s₁) (fun k s' hI => ?_) (n + 1)
    ⟨0, oC, m₂, rfl, Nat.zero_le _, hC, hv, F, by simpa using N, hg, ho⟩
  obtain ⟨j, oC, m₂, rfl, hj, hC, hv, F, N, hg, ho⟩ := hI
  show wpAny _ A ((compTurn (.ListComp (.Name x pe) [⟨.Name x px, iter, [ct], 0⟩, ⟨.Name y py, iter2, [], 0⟩] scope pos) 1 (.ref I2) (.ref D) (compEnvC scope cl C env)).onRaise (fun x => do noteFrame x (compEnvC scope cl C env); theTreesLotGoes x)) _ _ s'
  refine wpAny_noted ?_
  rw [compTurn_two1]
  have W := range_walks (prog := prog) (w := w) (I := I2) hh 0 n
  have z2 := N _ (.head _)
  have tail : ∀ {h₂ : Heap}, (∀ b o, b ∉ [I2] → s'.heap.get? b = some o → h₂.get? b = some o) → Fr h₀ L h₂ m ∧ News h₀ L h₂ ((I, oI) :: (C, oC) :: (D, lst (ys ++ List.replicate j v)) :: nw) := fun hk₂ =>
    ⟨fr_but F hk₂ (Ne.symm z2.2.1) z2.2.2, news_but (news_tl N) hk₂ (fc (Ne.symm nI) (fc (Ne.symm nC) (fc (Ne.symm nD) fun p hp => (hoff p hp).1)))⟩
  refine wpAny_bind (wpAny_standAt (wpAny_bind ?_))
  by_cases hlt : j < n
  · refine W.item j _ _ _ hlt z2.1 fun u h₂ tk₂ _ hst₂ hk₂ => ?_
    obtain ⟨F₂, N₂⟩ := tail hk₂
    dsimp only
    refine wpAny_bind (wpAny_of_eq (a := ()) rfl ?_)
    have N₂' : News h₀ L h₂ ((C, oC) :: ((I2, rgObj (0 + ((j + 1 : Nat) : Int) * 1) ((n : Int) - ((j + 1 : Nat) : Int))) :: (I, oI) :: (D, lst (ys ++ List.replicate j v)) :: nw)) := fc (N₂ _ (.tail _ (.head _))) (fc ⟨hst₂, z2.2⟩ (fc (N₂ _ (.head _)) (fc (N₂ _ (.tail _ (.tail _ (.head _)))) fun q hq => N₂ _ (.tail _ (.tail _ (.tail _ hq))))))
    have zC := N₂' _ (.head _)
    refine wpAny_bind (wpAny_assign_Name (wpAny_storeName_local hy (hC.ns zC.1) (fun h₃ hn₃ hs₃ => ?_) (by rw [hk]; simp)))
    obtain ⟨oC₃, eC₃, hC₃⟩ := ns_obj hn₃
    have F₃ : Fr h₀ L h₃ m := F₂.change hs₃ zC.2.1 zC.2.2
    have N₃ := news_one (pre := []) N₂' (fun _ h => nomatch h) (fc nC (fc nIC (fc (Ne.symm nCD) fun p hp => (hoff p hp).2.2.1))) hs₃ eC₃
    have hv₃ : (if x = y then some u else m₂ x) = some v := by rw [if_neg hxy]; exact hv
    refine wpAny_bind (wpAny_bind (ldVarK (hC₃.ns (N₃ _ (.head _)).1) hv₃ ?_ hk hx hdx))
    have N₃' : News h₀ L h₃ (((I2, rgObj (0 + ((j + 1 : Nat) : Int) * 1) ((n : Int) - ((j + 1 : Nat) : Int))) :: (I, oI) :: (C, oC₃) :: []) ++ (D, lst (ys ++ List.replicate j v)) :: nw) := news_sub N₃ (fa (fc (.tail _ (.head _)) (fc (.tail _ (.tail _ (.head _))) (fc (.head _) f0))) (fc (.tail _ (.tail _ (.tail _ (.head _)))) fun q hq => .tail _ (.tail _ (.tail _ (.tail _ hq)))))
    have zD := N₃' (D, lst (ys ++ List.replicate j v)) (List.mem_append_right _ (.head _))
    refine wpAny_bind (append_at (hsz := by show (ys ++ List.replicate j v).toArray.size ≤ sizeLine; rw [List.size_toArray, List.length_append, List.length_replicate]; omega) zD.1 fun h₅ hs₅ hD₅ => ?_)
    have N₅ := news_one N₃' (fc nD (fc nID (fc nCD f0))) (fun p hp => (hoff p hp).2.2.2) hs₅ (hD₅.trans (congrArg some (lst_snoc _ v)))
    refine wpAny_pure (wpAny_pure ⟨rfl, n + 1 - (j + 1), by omega, j + 1, oC₃, _, rfl, hlt, hC₃, hv₃, F₃.change hs₅ zD.2.1 zD.2.2, ?_, hg, ho⟩)
    rw [List.append_assoc, ← List.replicate_succ'] at N₅
    exact N₅
  · obtain rfl : j = n := Nat.le_antisymm hj (Nat.not_lt.mp hlt)
    refine W.done _ _ _ z2.1 fun h₂ tk₂ hk₂ => ?_
    obtain ⟨F₂, N₂⟩ := tail hk₂
    exact wpAny_pure (hR { s' with heap := h₂, toks := tk₂ } oC m₂ hC hv F₂ N₂ hg ho)
end
section
open LCg
variable {prog : Program} {w : World} {A : Around} {E : Value → Shared → Prop} {h₀ : Heap} {L : Addr} {m : Str → Option Value} {env : Env}
theorem start_two {elt t1 i1 c1 t2 i2 : Expr} {scope : Scope} {pos : Pos} {it acc : Value} {cenv : Env} {R : Result → Shared → Prop} {s : Shared}
    (h0 : codeAny (model prog w) A (.compLoop (.ListComp elt [⟨t1, i1, [c1], 0⟩, ⟨t2, i2, [], 0⟩] scope pos) 1 it acc cenv) R s)
    (h : wpAny (model prog w) A (pyIter it) (fun it' s' => codeAny (model prog w) A (.compLoop (.ListComp elt [⟨t1, i1, [c1], 0⟩, ⟨t2, i2, [], 0⟩] scope pos) 1 it' acc cenv) R s') (notedBy (model prog w) A cenv fun x s' => R (.error x) s') s) :
    codeAny (model prog w) A (.compStart (.ListComp elt [⟨t1, i1, [c1], 0⟩, ⟨t2, i2, [], 0⟩] scope pos) 1 it acc cenv) R s := by
  refine codeAny_of_tree ?_
  show wpAny _ _ ((compStart (.ListComp elt [⟨t1, i1, [c1], 0⟩, ⟨t2, i2, [], 0⟩] scope pos) 1 it acc cenv).onRaise (fun x => do noteFrame x cenv; standAt theWindowsPlace)) _ _ s
  refine wpAny_notedAt ?_
  unfold compStart
  show wpAny _ _ (ask >>= _) _ _ s
  refine wpAny_bind (wpAny_askSetting (wpAny_ite ?_))
  split
  · first
      | exact wpAny_bind (wpAny_pure (wpAny_pure (And.intro rfl h0)))
      | exact wpAny_pure (And.intro rfl h0)
  · exact wpAny_bind (wpAny_rule (wpAny_bind (wpAny_standAt (wpAny_bind (wpAny_mono h (fun it' s' h' => wpAny_pure (And.intro rfl h')) fun _ _ x => x)))))
end
section
open LCg
variable {prog : Program} {w : World} {A : Around} {E : Value → Shared → Prop} {h₀ : Heap} {L C I D : Addr} {m : Str → Option Value} {env : Env}
inductive EndT (h₀ : Heap) (L : Addr) (m : Str → Option Value) (I D C : Addr) (pre : List (Addr × Obj)) (s₁ : Shared) (K : List (Addr × Obj) → Prop) (s₂ : Shared) : Prop
  | mk (nw : List (Addr × Obj)) (f0 : Fr h₀ L s₂.heap m) (f1 : News h₀ L s₂.heap (pre ++ nw)) (f2 : OffB I D [C] nw) (f3 : K nw) (f4 : AllBare s₂.gens) (f5 : s₂.os = s₁.os)
inductive SecR (h₀ : Heap) (L : Addr) (m : Str → Option Value) (I D C : Addr) (pre : List (Addr × Obj)) (s₁ : Shared) (K : Nat → List (Addr × Obj) → Prop) (xv : Value) (s₂ : Shared) : Prop
  | mk (r : Addr) (n : Nat) (t u v : Tok) (nw : List (Addr × Obj)) (f0 : xv = .ref r) (f1 : IsRange s₂.heap r 0 (n : Int) 1 t u v) (f2 : n ≤ 2) (f3 : Fr h₀ L s₂.heap m) (f4 : News h₀ L s₂.heap (pre ++ nw)) (f5 : OffB I D [C] nw) (f6 : K n nw) (f7 : AllBare s₂.gens) (f8 : s₂.os = s₁.os)
noncomputable def TurnsT (prog : Program) (w : World) (A : Around) (h₀ : Heap) (L : Addr) (m : Str → Option Value) (ct iter2 : Expr) (x : Str) (mk : Addr → Env) (s₁ : Shared) (its : List Value) (J : Nat → List Value → List (Addr × Obj) → Prop) : Prop :=
  ∀ i v ys nw I oI D C oC m₂ s₂ (E' : Value → Shared → Prop), its[i]? = some v → J i ys nw → NsObj oC m₂ → m₂ x = some v → Fr h₀ L s₂.heap m → News h₀ L s₂.heap ((I, oI) :: (C, oC) :: (D, lst ys) :: nw) → OffB I D [C] nw → (@Ne Nat I C ∧ @Ne Nat I D ∧ @Ne Nat C D) → AllBare s₂.gens → s₂.os = s₁.os →
    wpAny (model prog w) A (isTrue ct (mk C) (eval ct (mk C))) (fun ok s₃ => if ok = true then
      wpAny (model prog w) A (eval iter2 (mk C)) (SecR h₀ L m I D C [(I, oI), (C, oC), (D, lst ys)] s₁ (fun n nw' => J (i + 1) (ys ++ List.replicate n v) nw')) E' s₃
      else EndT h₀ L m I D C [(I, oI), (C, oC), (D, lst ys)] s₁ (fun nw' => J (i + 1) ys nw') s₃) E' s₂
inductive TwoInv (h₀ : Heap) (L : Addr) (m : Str → Option Value) (I D C : Addr) (its : List Value) (l : Addr) (J : Nat → List Value → List (Addr × Obj) → Prop) (s₁ : Shared) (k : Nat) (s' : Shared) : Prop
  | mk (i : Nat) (ys : List Value) (nw : List (Addr × Obj)) (oI oC : Obj) (m₂ : Str → Option Value) (f0 : k = its.length + 1 - i) (f1 : i ≤ its.length) (f2 : ys.length ≤ 2 * i) (f3 : IterObj oI l i) (f4 : NsObj oC m₂) (f5 : Fr h₀ L s'.heap m) (f6 : News h₀ L s'.heap ((I, oI) :: (C, oC) :: (D, lst ys) :: nw)) (f7 : OffB I D [C] nw) (f8 : J i ys nw) (f9 : AllBare s'.gens) (g : s'.os = s₁.os)
theorem two_loop {x y : Str} {px py pe : Pos} {iter iter2 ct : Expr} {scope : Scope} {cl : List (Str × Addr)} {pos : Pos} {its : List Value} {nl : Nat} {l : Addr} {J : Nat → List Value → List (Addr × Obj) → Prop} {s₁ s : Shared} {R : Result → Shared → Prop} (hh : A.handled = none)
    (hk : (compEnvC scope cl C env).scope.kind = .function) (hx : (compEnvC scope cl C env).kindOf x = some .local) (hy : (compEnvC scope cl C env).kindOf y = some .local) (hxy : x ≠ y) (hdx : (x == ("__debug__" : Str)) = false) (hs2 : ∀ z e, foldedSetIterable iter2 e z = pure z)
    (hmem : ∀ i ys nw, J i ys nw → (l, listOf its.toArray nl) ∈ nw) (hsz : its.length ≤ 1000) (T : TurnsT prog w A h₀ L m ct iter2 x (fun C => compEnvC scope cl C env) s₁ its J)
    (nIC : @Ne Nat I C) (nID : @Ne Nat I D) (nCD : @Ne Nat C D) {oI oC : Obj} {m₂ : Str → Option Value} {nw : List (Addr × Obj)} (hI : IterObj oI l 0) (hC : NsObj oC m₂) (F : Fr h₀ L s.heap m) (N : News h₀ L s.heap ((I, oI) :: (C, oC) :: (D, lst []) :: nw)) (hoff : OffB I D [C] nw) (hJ : J 0 [] nw)
    (hg : AllBare s.gens) (ho : s.os = s₁.os)
    (hR : ∀ ys nw oC m₂ s₂, J its.length ys nw → NsObj oC m₂ → Fr h₀ L s₂.heap m → News h₀ L s₂.heap ((C, oC) :: (D, lst ys) :: nw) → OffB I D [C] nw → AllBare s₂.gens → s₂.os = s₁.os → R (.ok .next) s₂) :
    codeAny (model prog w) A (.compLoop (.ListComp (.Name x pe) [⟨.Name x px, iter, [ct], 0⟩, ⟨.Name y py, iter2, [], 0⟩] scope pos) 0 (.ref I) (.ref D) (compEnvC scope cl C env)) R s := by
  refine codeAny_loop rfl (TwoInv h₀ L m I D C its l J s₁) (fun k s' hInv => ?_) (its.length + 1)
    ⟨0, [], nw, oI, oC, m₂, rfl, Nat.zero_le _, Nat.le_refl _, hI, hC, F, N, hoff, hJ, hg, ho⟩
  obtain ⟨i, ys, nw, oI, oC, m₂, rfl, hi, hyl, hI, hC, F, N, hoff, hJ, hg, ho⟩ := hInv
  show wpAny _ A ((compTurn (.ListComp (.Name x pe) [⟨.Name x px, iter, [ct], 0⟩, ⟨.Name y py, iter2, [], 0⟩] scope pos) 0 (.ref I) (.ref D) (compEnvC scope cl C env)).onRaise (fun x => do noteFrame x (compEnvC scope cl C env); theTreesLotGoes x)) _ _ s'
  refine wpAny_noted ?_
  rw [compTurn_two0]
  have hml := hmem i ys nw hJ
  have zI := N (I, oI) (.head _)
  have zl := N _ (.tail _ (.tail _ (.tail _ hml)))
  have hIl : l ≠ I := (hoff _ hml).1
  have W := Walks.list (prog := prog) (w := w) hh I l hIl its.toArray
  have hst : s'.heap.IsListIter I l i ∧ s'.heap.IsList l its.toArray := ⟨⟨oI, zI.1, hI⟩, ⟨_, zl.1, rfl, nl, rfl⟩⟩
  have tail : ∀ {h₂ : Heap}, (∀ b o, b ∉ [I] → s'.heap.get? b = some o → h₂.get? b = some o) → Fr h₀ L h₂ m ∧ News h₀ L h₂ ((C, oC) :: (D, lst ys) :: nw) := fun hk₂ =>
    ⟨fr_but F hk₂ (Ne.symm zI.2.1) zI.2.2, news_but (news_tl N) hk₂ (fc (Ne.symm nIC) (fc (Ne.symm nID) fun p hp => (hoff p hp).1))⟩
  refine wpAny_bind (wpAny_standAt (wpAny_bind ?_))
  by_cases hlt : i < its.length
  · refine W.item i _ _ _ (by simpa using hlt) hst fun v h₂ tk₂ hPv hst₂ hk₂ => ?_
    have hv : its[i]? = some v := by simpa using hPv
    obtain ⟨F₂, N₂⟩ := tail hk₂
    obtain ⟨⟨oI₂, eI₂, hI₂⟩, _⟩ := hst₂
    dsimp only
    refine wpAny_bind (wpAny_of_eq (a := ()) rfl ?_)
    have zC := N₂ _ (.head _)
    have N₂' : News h₀ L h₂ ((C, oC) :: ((I, oI₂) :: (D, lst ys) :: nw)) := fc zC (fc ⟨eI₂, zI.2⟩ (fc (N₂ _ (.tail _ (.head _))) fun q hq => N₂ _ (.tail _ (.tail _ hq))))
    refine wpAny_bind (wpAny_assign_Name (wpAny_storeName_local hx (hC.ns zC.1) (fun h₃ hn₃ hs₃ => ?_) (by rw [hk]; simp)))
    obtain ⟨oC₃, eC₃, hC₃⟩ := ns_obj hn₃
    have F₃ : Fr h₀ L h₃ m := F₂.change hs₃ zC.2.1 zC.2.2
    have N₃ := news_one (pre := []) N₂' (fun _ h => nomatch h) (fc nIC (fc (Ne.symm nCD) fun p hp => (hoff p hp).2.2 C (.head _))) hs₃ eC₃
    have N₃' : News h₀ L h₃ ((I, oI₂) :: (C, oC₃) :: (D, lst ys) :: nw) := news_sub N₃ (fc (.tail _ (.head _)) (fc (.head _) (fc (.tail _ (.tail _ (.head _))) fun q hq => .tail _ (.tail _ (.tail _ hq)))))
    refine wpAny_bind (wpAny_tests_one (wpAny_mono (T i v ys nw I oI₂ D C oC₃ _ _ _ hv hJ hC₃ (by simp) F₃ N₃' hoff ⟨nIC, nID, nCD⟩ hg ho) (fun ok s₄ h₄ => ?_) fun _ _ e => e))
    cases ok with
    | false =>
      simp only [Bool.false_eq_true, if_false] at h₄ ⊢
      obtain ⟨nw₄, F₄, N₄, off₄, hJ₄, hg₄, ho₄⟩ := h₄
      exact wpAny_pure ⟨rfl, its.length + 1 - (i + 1), by omega, i + 1, ys, nw₄, oI₂, oC₃, _, rfl, hlt, by omega, hI₂, hC₃, F₄, N₄, off₄, hJ₄, hg₄, ho₄⟩
    | true =>
      simp only [if_true] at h₄ ⊢
      refine wpAny_bind (wpAny_mono h₄ (fun xv s₅ h₅ => ?_) fun _ _ e => e)
      obtain ⟨r, n, t, u, v', nw₅, rfl, hr, hn, F₅, N₅, off₅, hJ₅, hg₅, ho₅⟩ := h₅
      refine wpAny_bind (wpAny_standAt (wpAny_bind (wpAny_of_eq (hs2 _ _) (wpAny_bind (wpAny_holding ?_)))))
      have hsm : Builtin.Range.small 0 (n : Int) 1 = true := small_one (by omega) (by omega) (by omega) (by omega)
      refine wpAny_pyIter_range hr hsm ?_
      have hrs : Builtin.Range.rangeSize 0 (n : Int) 1 = (n : Int) := by rw [rangeSize_nat]; omega
      rw [hrs]
      have up : ∀ b o, s₅.heap.get? b = some o → (s₅.heap.push (rgObj 0 n)).get? b = some o := fun b o e => Heap.get?_push_of_some _ e
      have e2 : (s₅.heap.push (rgObj 0 n)).get? s₅.heap.objs.size = some (rgObj 0 n) := Heap.get?_push_size _ rfl
      have lt5 : ∀ p ∈ (I, oI₂) :: (C, oC₃) :: (D, lst ys) :: nw₅, p.1 < s₅.heap.objs.size := fun p hp => Heap.lt_size (N₅ p hp).1
      have F₆ := F₅.keeps up
      have Llt : L < s₅.heap.objs.size := F₅.ns.lt
      have N₆ : News h₀ L (s₅.heap.push (rgObj 0 n)) ((s₅.heap.objs.size, rgObj 0 n) :: (I, oI₂) :: (C, oC₃) :: (D, lst ys) :: nw₅) := fc ⟨e2, Nat.ne_of_gt Llt, Heap.get?_none_of_le (Nat.le_trans F₅.above (Nat.le_of_lt Llt))⟩ fun q hq => ⟨up _ _ (N₅ q hq).1, (N₅ q hq).2⟩
      refine wpAny_bind (wpAny_runOwn ?_)
      rw [Around.mark_none]
      have loop : codeAny (model prog w) A (.compLoop (.ListComp (.Name x pe) [⟨.Name x px, iter, [ct], 0⟩, ⟨.Name y py, iter2, [], 0⟩] scope pos) 1 (.ref s₅.heap.objs.size) (.ref D) (compEnvC scope cl C env))
          (fun r s' => match r with
            | .ok f => wpAny (model prog w) A (again (.compLoop (.ListComp (.Name x pe) [⟨.Name x px, iter, [ct], 0⟩, ⟨.Name y py, iter2, [], 0⟩] scope pos) 0 (.ref I) (.ref D) (compEnvC scope cl C env))) (fun fin s'' => match fin with | .done f => R (.ok f) s'' | .again c' => c' = (.compLoop (.ListComp (.Name x pe) [⟨.Name x px, iter, [ct], 0⟩, ⟨.Name y py, iter2, [], 0⟩] scope pos) 0 (.ref I) (.ref D) (compEnvC scope cl C env)) ∧ ∃ m', m' < its.length + 1 - i ∧ TwoInv h₀ L m I D C its l J s₁ m' s'')
                (notedBy (model prog w) A (compEnvC scope cl C env) fun e s' => R (.error e) s') s'
            | .error e => cameBackBy (model prog w) A (compEnvC scope cl C env) (notedBy (model prog w) A (compEnvC scope cl C env) fun e s' => R (.error e) s') e s') { s₅ with heap := s₅.heap.push (rgObj 0 n) } := by
        refine in_loop (v := v) (s₁ := s₁) hh hk hx hy hxy hdx (Nat.ne_of_gt (lt5 _ (.head _))) (Nat.ne_of_gt (lt5 _ (.tail _ (.head _)))) (Nat.ne_of_gt (lt5 _ (.tail _ (.tail _ (.head _))))) nIC nID nCD (fun p hp => ⟨Nat.ne_of_lt (lt5 _ (.tail _ (.tail _ (.tail _ hp)))), (off₅ p hp).1, (off₅ p hp).2.2 C (.head _), (off₅ p hp).2.1⟩)
          (by rw [sizeLine_eq]; omega) F₆ N₆ hC₃ (by simp) hg₅ ho₅ fun s₆ oC' m₂' hC' _ F' N' hg' ho' => ?_
        exact wpAny_pure ⟨rfl, its.length + 1 - (i + 1), by omega, i + 1, _, nw₅, oI₂, oC', m₂', rfl, hlt, by rw [List.length_append, List.length_replicate]; omega, hI₂, hC', F', N', off₅, hJ₅, hg', ho'⟩
      exact start_two loop (wpAny_pyIter_rangeiter e2 loop)
  · obtain rfl : i = its.length := Nat.le_antisymm hi (Nat.not_lt.mp hlt)
    refine W.done _ _ _ (by simpa using hst) fun h₂ tk₂ hk₂ => ?_
    obtain ⟨F₂, N₂⟩ := tail hk₂
    exact wpAny_pure (hR ys nw oC m₂ { s' with heap := h₂, toks := tk₂ } hJ hC F₂ N₂ hoff hg ho)
end
section
open LCg
variable {prog : Program} {w : World} {A : Around} {E : Value → Shared → Prop} {h₀ : Heap} {L : Addr} {m : Str → Option Value} {env : Env}
inductive SrcT (prog : Program) (w : World) (A : Around) (h₀ : Heap) (L : Addr) (m : Str → Option Value) (env : Env) (ct iter2 : Expr) (x : Str) (scope : Scope) (cl : List (Str × Addr)) (Q : Value → Shared → Prop) (xv : Value) (s₁ : Shared) : Prop
  | mk (l : Addr) (its : List Value) (nl : Nat) (nw : List (Addr × Obj)) (J : Nat → List Value → List (Addr × Obj) → Prop) (f0 : xv = .ref l) (f1 : Fr h₀ L s₁.heap m) (f2 : News h₀ L s₁.heap nw) (f3 : its.length ≤ 1000) (f4 : AllBare s₁.gens) (f5 : J 0 [] nw) (f6 : (∀ i ys nw, J i ys nw → (l, listOf its.toArray nl) ∈ nw)) (f7 : TurnsT prog w A h₀ L m ct iter2 x (fun C => compEnvC scope cl C env) s₁ its J) (f8 : ∀ ys nw D s₂, J its.length ys nw → Fr h₀ L s₂.heap m → News h₀ L s₂.heap ((D, lst ys) :: nw) → (∀ p ∈ nw, @Ne Nat p.1 D) → AllBare s₂.gens → s₂.os = s₁.os → Q (.ref D) s₂)
theorem comp_two {iter iter2 ct : Expr} {x y : Str} {px py pe : Pos} {scope : Scope} {cl : List (Str × Addr)} {pos : Pos} {s : Shared} {Q : Value → Shared → Prop} (F₀ : Fr h₀ L s.heap m) (hh : A.handled = none)
    (hclos : closureFor scope env = pure cl) (hcell : ∀ y ∈ scope.names, y.2 ≠ .cell) (hkind : scope.kind = .function) (hnames : ∀ y ∈ scope.names, y.2 = .local → scope.names.lookup y.1 = some .local) (hx : scope.names.lookup x = some .local) (hy : scope.names.lookup y = some .local) (hxy : x ≠ y) (hdx : (x == ("__debug__" : Str)) = false)
    (h : wpAny (model prog w) A (eval iter env) (SrcT prog w A h₀ L m env ct iter2 x scope cl Q) E s)
    (hs : ∀ x, foldedSetIterable iter env x = pure x := by intro _; rfl) (hs2 : ∀ z e, foldedSetIterable iter2 e z = pure z := by intro _ _; rfl) :
    wpAny (model prog w) A (eval (.ListComp (.Name x pe) [⟨.Name x px, iter, [ct], 0⟩, ⟨.Name y py, iter2, [], 0⟩] scope pos) env) Q E s := by
  rw [eval_ListComp]
  refine wpAny_comprehension_free (use := none) rfl hs hclos hkind hnames (wpAny_mono h (fun xv s₁ h₁ => ?_) fun _ _ e => e)
  obtain ⟨l, its, nl, nw, J, rfl, F, N, hsz, hg, hJ, hmem, T, fin⟩ := h₁
  have hl : s₁.heap.IsList l its.toArray := ⟨_, (N _ (hmem _ _ _ hJ)).1, rfl, nl, rfl⟩
  refine wpAny_pyIter_list hl ?_
  refine wpAny_newObj_type ?_
  generalize hH2 : (s₁.heap.push { cls := .type "list_iterator", data := .fields #[.ref l, .int 0 0] }).push { cls := .type "list", dict := none, data := .seq ([] : List Value).toArray } = H2
  have sz2 : H2.objs.size = s₁.heap.objs.size + 2 := by rw [← hH2, Heap.size_push, Heap.size_push]
  have up : ∀ b o, s₁.heap.get? b = some o → H2.get? b = some o := fun b o e => hH2 ▸ Heap.get?_push_of_some _ (Heap.get?_push_of_some _ e)
  have eI : H2.get? s₁.heap.objs.size = some { cls := .type "list_iterator", data := .fields #[.ref l, .int 0 0] } := hH2 ▸ Heap.get?_push_of_some _ (Heap.get?_push_size _ rfl)
  have eD : H2.get? (s₁.heap.objs.size + 1) = some (lst []) := by
    have q := Heap.get?_push_size (s₁.heap.push { cls := .type "list_iterator", data := .fields #[.ref l, .int 0 0] }) (o := { cls := .type "list", dict := none, data := .seq ([] : List Value).toArray }) rfl
    rw [Heap.size_push] at q
    exact hH2 ▸ q
  have le12 : s₁.heap.objs.size ≤ H2.objs.size := by rw [sz2]; exact Nat.le_add_right _ _
  have Llt : L < s₁.heap.objs.size := F.ns.lt
  have fresh : ∀ a, s₁.heap.objs.size ≤ a → h₀.get? a = none := fun a ha => Heap.get?_none_of_le (Nat.le_trans F.above (Nat.le_of_lt (Nat.lt_of_lt_of_le Llt ha)))
  have nlt : ∀ p ∈ nw, p.1 < s₁.heap.objs.size := fun p hp => Heap.lt_size (N p hp).1
  refine wpAny_newFunctionEnv hcell (by intro y hy; simp at hy) (fun h₁ hns hsb => ?_) hkind
  dsimp only at hns hsb ⊢
  rw [Heap.size_push]
  obtain ⟨oC, eC, hC⟩ := ns_obj hns
  have up3 : ∀ b o, H2.get? b = some o → h₁.get? b = some o := fun b o e => hsb.extBut b o (Nat.ne_of_lt (Heap.lt_size e)) (Heap.get?_push_of_some _ e)
  have F3 : Fr h₀ L h₁ m := F.keeps fun b o e => up3 b o (up b o e)
  have N3 : News h₀ L h₁ ((s₁.heap.objs.size, { cls := .type "list_iterator", data := .fields #[.ref l, .int 0 0] }) :: (H2.objs.size, oC) :: (s₁.heap.objs.size + 1, lst []) :: nw) := fun q hq => by
    simp only [List.mem_cons] at hq
    rcases hq with rfl | rfl | rfl | hq
    · exact ⟨up3 _ _ eI, Nat.ne_of_gt Llt, fresh _ (Nat.le_refl _)⟩
    · exact ⟨eC, Nat.ne_of_gt (Nat.lt_of_lt_of_le Llt le12), fresh _ le12⟩
    · exact ⟨up3 _ _ eD, Nat.ne_of_gt (Nat.lt_succ_of_lt Llt), fresh _ (Nat.le_succ _)⟩
    · exact ⟨up3 _ _ (up _ _ (N q hq).1), (N q hq).2⟩
  have hoff : OffB s₁.heap.objs.size (s₁.heap.objs.size + 1) [H2.objs.size] nw := fun p hp => by
    have := nlt p hp
    exact ⟨Nat.ne_of_lt this, Nat.ne_of_lt (Nat.lt_succ_of_lt this), fun a ha => by rw [List.mem_singleton.mp ha]; exact Nat.ne_of_lt (Nat.lt_of_lt_of_le this le12)⟩
  have loop : codeAny (model prog w) A (.compLoop (.ListComp (.Name x pe) [⟨.Name x px, iter, [ct], 0⟩, ⟨.Name y py, iter2, [], 0⟩] scope pos) 0 (.ref s₁.heap.objs.size) (.ref (s₁.heap.objs.size + 1)) (compEnvC scope cl H2.objs.size env)) (compPost (model prog w) A E none Q (.ref (s₁.heap.objs.size + 1)) H2.objs.size) { s₁ with heap := h₁, toks := s₁.toks + ([] : List (Str × Value)).length } := by
    refine two_loop (s₁ := s₁) hh hkind (lookup_relabel_local hx) (lookup_relabel_local hy) hxy hdx hs2 hmem hsz T (Nat.ne_of_lt (by show s₁.heap.objs.size < H2.objs.size; rw [sz2]; omega)) (Nat.ne_of_lt (Nat.lt_succ_self _)) (Nat.ne_of_gt (by show s₁.heap.objs.size + 1 < H2.objs.size; rw [sz2]; omega)) ⟨rfl, rfl⟩ hC F3 N3 hoff hJ hg rfl fun ys nw' oC' m₂ s₂ hJ' hC' F' N' off' hg' ho' => ?_
    have zC := N' _ (.head _)
    refine ⟨m₂, hC'.ns zC.1, fun h'' hs'' => fin ys nw' _ _ hJ' (F'.change hs'' zC.2.1 zC.2.2) (fun q hq => ?_) (fun p hp => (off' p hp).2.1) hg' ho'⟩
    have zq := N' q (.tail _ hq)
    refine ⟨hs''.extBut _ _ ?_ zq.1, zq.2⟩
    rcases List.mem_cons.mp hq with rfl | hq
    · show s₁.heap.objs.size + 1 ≠ H2.objs.size
      omega
    · exact (off' q hq).2.2 _ (.head _)
  exact codeAny_compStart_list loop (wpAny_pyIter_listiter ⟨_, up3 _ _ eI, rfl, rfl⟩ loop)
end
end
end
section
local macro_rules | `(tactic| walk_at "eval ListComp") => `(tactic| (refine stop_here ?_))
local macro_rules | `(tactic| walk_at "exec Assign cons ListComp") => `(tactic| (refine stop_here ?_))
local macro_rules | `(tactic| walk_at "SrcG") => `(tactic| (refine stop_here ?_))
local macro_rules | `(tactic| walk_at "SrcT") => `(tactic| (refine stop_here ?_))
local macro_rules | `(tactic| walk_at "EndG") => `(tactic| (refine stop_here ?_))
local macro_rules | `(tactic| walk_at "call ref") => `(tactic| (refine stop_here ?_))
noncomputable abbrev lawX (L a : Addr) (ccd : Value) (sc : Scope) : Env := envX (Str.ofString "law") sc L a ccd [(Str.ofString "drawn", L + 1)]
noncomputable abbrev lawA (dp un : Nat) (gd : Option (List Code)) (L a : Addr) (ccd : Value) (sc : Scope) : Around := ktrTop dp un gd (Str.ofString "law") sc L a ccd [(Str.ofString "drawn", L + 1)] []
noncomputable abbrev lawLed (L R A1 B1 : Addr) (oc : Obj) (va vb : List Value) (na nb : Nat) (ps : Array Value) (tb : List (Addr × Obj)) : List (Addr × Obj) :=
  (L + 1, oc) :: (R, listOf #[.ref A1, .ref B1] 0) :: (B1, listOf vb.toArray nb) :: (A1, listOf va.toArray na) :: (760, tabObj ps) :: tb
theorem news_apart {h₀ h : Heap} {L a b : Addr} {o o' : Obj} {nw : List (Addr × Obj)} (N : News h₀ L h nw) (h1 : (a, o) ∈ nw) (h2 : (b, o') ∈ nw) (ho : o ≠ o') : @Ne Nat a b := fun e => by
  have z1 := (N _ h1).1
  have z2 := (N _ h2).1
  rw [show a = b from e] at z1
  exact ho (Option.some.inj (z1.symm.trans z2))
theorem list_ne_tab {its ps : Array Value} {n : Nat} : listOf its n ≠ tabObj ps := fun h => by
  have := congrArg Obj.cls h
  cases this
theorem cell_ne_tab {o : Obj} {v : Option Value} {ps : Array Value} (h : o.data = .cell v) : o ≠ tabObj ps := fun e => by
  rw [e] at h; cases h
structure JoinRow (ws : List Str) : Prop where
  len : ws.length < 2 ^ 10
  q : ∀ y ∈ ws, QOk y
  ok : JoinOk (Str.ofString " ") (ws.map quoteF) = true
theorem call_join (hW : Wants PySem.Challenge.rw_in0077_01 Mine.K) {prog : Program} {w : World} {p : Program} {loose : List Str} {mean : ExcName → Option Value} {mg mb : Str → Option Value} {dp un : Nat} {gd : Option (List Code)} {cn : Str} {cs : Scope} {a : Addr} {ccd : Value} {cl : List (Str × Addr)} {A₀ : Around} {base h₀ : Heap} {L : Addr} {m : Str → Option Value} {s : Shared} {Q E : Value → Shared → Prop}
    {R A1 B1 X : Addr} {oc : Obj} {va vb vx : List Value} {wx : List Str} {na nb nx : Nat} {ps : Array Value} {front : List (Addr × Obj)} (B : Below A₀ base [] h₀) (F : Fr h₀ L s.heap m) (KX : (Mine.K w.params).In h₀) (T : Top p loose mean mg mb h₀)
    (N : News h₀ L s.heap (front ++ lawLed L R A1 B1 oc va vb na nb ps [(797, tabObj #[])])) (hf : ∀ q ∈ front, @Ne Nat q.1 760) (hoc : oc.data = .cell (some (.ref R))) (hX : (X, listOf vx.toArray nx) ∈ lawLed L R A1 B1 oc va vb na nb ps [(797, tabObj #[])]) (hx : TextsAre vx wx) (hr : JoinRow wx) (hps : TabOk jpos ps) (hg : AllBare s.gens) (hk : cs.kind = .function) (hd : dp + 8 < recursionLimit) (hu : un + 80 < cLine)
    (ret : ∀ t ps' s', TabOk jpos ps' → Fr h₀ L s'.heap m → News h₀ L s'.heap (front ++ lawLed L R A1 B1 oc va vb na nb ps' [(797, tabObj #[])]) → AllBare s'.gens → s'.os = s.os → Q (.str (joinF wx) t) s') :
    wpAny (model prog w) (ktrTop dp un gd cn cs L a ccd cl []) (call (.ref 765) [.ref X]) Q E s := by
  have hne : ∀ q ∈ [(L + 1, oc), (R, listOf #[.ref A1, .ref B1] 0), (B1, listOf vb.toArray nb), (A1, listOf va.toArray na), (X, listOf vx.toArray nx), (797, tabObj #[])], @Ne Nat q.1 760 := by
    have m760 : ((760 : Nat), tabObj ps) ∈ front ++ lawLed L R A1 B1 oc va vb na nb ps [(797, tabObj #[])] := List.mem_append_right _ (.tail _ (.tail _ (.tail _ (.tail _ (.head _)))))
    exact fc (news_apart N (List.mem_append_right _ (.head _)) m760 (cell_ne_tab hoc)) (fc (news_apart N (List.mem_append_right _ (.tail _ (.head _))) m760 list_ne_tab) (fc (news_apart N (List.mem_append_right _ (.tail _ (.tail _ (.head _)))) m760 list_ne_tab)
      (fc (news_apart N (List.mem_append_right _ (.tail _ (.tail _ (.tail _ (.head _))))) m760 list_ne_tab) (fc (news_apart N (List.mem_append_right _ hX) m760 list_ne_tab) (fc (by decide) f0)))))
  refine c_join hW prog w p loose mean mg mb (front ++ [(L + 1, oc), (R, listOf #[.ref A1, .ref B1] 0), (B1, listOf vb.toArray nb), (A1, listOf va.toArray na), (797, tabObj #[])]) X vx wx nx ps hx hr.len (fc (hne _ (.tail _ (.tail _ (.tail _ (.tail _ (.head _)))))) (fa hf (fc (hne _ (.head _)) (fc (hne _ (.tail _ (.head _))) (fc (hne _ (.tail _ (.tail _ (.head _)))) (fc (hne _ (.tail _ (.tail _ (.tail _ (.head _))))) (fc (hne _ (.tail _ (.tail _ (.tail _ (.tail _ (.tail _ (.head _))))))) f0))))))) hr.q hr.ok hps _ _ _ _ _ _ _ _ _ _ _ _ _ _ _ _ _ B F KX (news_sub N (fc (List.mem_append_right _ (.tail _ (.tail _ (.tail _ (.tail _ (.head _)))))) (fc (List.mem_append_right _ hX) (fa (fun q h => List.mem_append_left _ h) (fc (List.mem_append_right _ (.head _)) (fc (List.mem_append_right _ (.tail _ (.head _))) (fc (List.mem_append_right _ (.tail _ (.tail _ (.head _)))) (fc (List.mem_append_right _ (.tail _ (.tail _ (.tail _ (.head _))))) (fc (List.mem_append_right _ (.tail _ (.tail _ (.tail _ (.tail _ (.tail _ (.head _))))))) f0))))))))) T hg hk hd hu fun v news' s' hO F' N' hg' ho' => ?_
  obtain ⟨t, ps', rfl, hps', rfl⟩ := hO
  exact ret t ps' s' hps' F' (news_sub N' (fa (fun q h => .tail _ (.tail _ (List.mem_append_left _ h))) (fc (.tail _ (.tail _ (List.mem_append_right _ (.head _)))) (fc (.tail _ (.tail _ (List.mem_append_right _ (.tail _ (.head _))))) (fc (.tail _ (.tail _ (List.mem_append_right _ (.tail _ (.tail _ (.head _)))))) (fc (.tail _ (.tail _ (List.mem_append_right _ (.tail _ (.tail _ (.tail _ (.head _))))))) (fc (.head _) (fc (.tail _ (.tail _ (List.mem_append_right _ (.tail _ (.tail _ (.tail _ (.tail _ (.head _)))))))) f0)))))))) hg' ho'
theorem offB_at {I D C x : Addr} {o : Obj} {nw : List (Addr × Obj)} (off : OffB I D [C] nw) (h : (x, o) ∈ nw) : @Ne Nat I x ∧ @Ne Nat C x ∧ @Ne Nat D x :=
  let z := off _ h
  ⟨Ne.symm z.1, Ne.symm (z.2.2 C (.head _)), Ne.symm z.2.1⟩
theorem offB_map {I D : Addr} {as : List Addr} {nw nw' : List (Addr × Obj)} (off : OffB I D as nw) (e : nw'.map (·.1) = nw.map (·.1)) : OffB I D as nw' := fun p hp => by
  have : p.1 ∈ nw.map (·.1) := e ▸ List.mem_map_of_mem hp
  obtain ⟨q, hq, e⟩ := List.mem_map.mp this
  exact e ▸ off q hq
structure SpellRow (ws : List Str) : Prop where
  len : ws.length ≤ 20
  short : ∀ y ∈ ws, y.length ≤ 30 ∧ ∀ c ∈ y.cps.toList, c < 256
  parts : ∀ y ∈ ws, ((Txt.split y (Str.ofString "'")).map (·.length)).sum + (Txt.split y (Str.ofString "'")).length * (Str.ofString "'\"'\"'").length ≤ 16777216 ∧ (Txt.join (Str.ofString "'\"'\"'") (Txt.split y (Str.ofString "'"))).length ≤ 1000
  join : ((ws.map spellF).map (·.length)).sum + (ws.map spellF).length * (Str.ofString " ").length ≤ 16777216
  same : Txt.join (Str.ofString " ") (ws.map spellF) = joinF ws
  ok : PyData.strOk (joinF ws) = true
section
variable {prog : Program} {w : World} {p : Program} {loose : List Str} {mean : ExcName → Option Value} {mg mb : Str → Option Value} {dp un : Nat} {gd : Option (List Code)} {cn : Str} {cs : Scope} {a : Addr} {ccd : Value} {cl : List (Str × Addr)} {A₀ : Around} {base h₀ : Heap} {L : Addr} {m : Str → Option Value} {s : Shared} {Q E : Value → Shared → Prop} {nw : List (Addr × Obj)}
theorem call_spell (hW : Wants PySem.Challenge.rw_in0077_01 Mine.K) {X : Addr} {vx : List Value} {wx : List Str} {nx : Nat} (B : Below A₀ base [] h₀) (F : Fr h₀ L s.heap m) (KX : (Mine.K w.params).In h₀) (T : Top p loose mean mg mb h₀) (N : News h₀ L s.heap nw) (hX : (X, listOf vx.toArray nx) ∈ nw) (hx : TextsAre vx wx) (hr : SpellRow wx) (hk : cs.kind = .function) (hd : dp + 6 < recursionLimit) (hu : un + 80 < cLine)
    (ret : ∀ t h' tk', Fr h₀ L h' m → News h₀ L h' nw → Q (.str (joinF wx) t) { s with heap := h', toks := tk' }) : wpAny (model prog w) (ktrTop dp un gd cn cs L a ccd cl []) (call (.ref 790) [.ref X]) Q E s := by
  refine c_spell hW prog w p loose mean mg mb nw X vx wx nx hx hr.len hr.short hr.parts hr.join _ _ _ _ _ _ _ _ _ _ _ _ _ _ _ _ _ B F KX (fc (N _ hX) N) T hk hd hu fun v news' h' tk' hO F' N' => ?_
  obtain ⟨t, rfl, rfl⟩ := hO
  rw [hr.same]
  exact ret t h' tk' F' (news_tl N')
end
theorem lit_st {st st' : Stmt} {sc sc' : Scope} {M : Model} {A : Scope → Around} {env : Scope → Env} {Q : Flow → Shared → Prop} {E : Value → Shared → Prop} {s : Shared} (e1 : st = st') (e2 : sc = sc') (h : wpAny M (A sc') (exec st' (env sc')) Q E s) : wpAny M (A sc) (exec st (env sc)) Q E s := by
  rw [e1, e2]; exact h
inductive JoinJ (f : Array Value → List (Addr × Obj)) (xs : List Str) (ys : List Value) : List (Addr × Obj) → Prop
  | mk {ps' : Array Value} (h1 : TabOk jpos ps') (h2 : StrsAre ys xs) : JoinJ f xs ys (f ps')
inductive FullJ (full : List (Addr × Obj)) (xs : List Str) (ys : List Value) : List (Addr × Obj) → Prop
  | mk (h : StrsAre ys xs) : FullJ full xs ys full
inductive RowX (nw : List (Addr × Obj)) (S : List Str → Prop) (G : Nat → List Str → Prop) (i : Nat) (v : Value) : Prop
  | mk (X : Addr) (vx : List Value) (wx : List Str) (nx : Nat) (f0 : v = .ref X) (f1 : (X, listOf (List.toArray vx) nx) ∈ nw) (f2 : TextsAre vx wx) (f3 : S wx) (f4 : G i wx)
theorem s_join : Wants PySem.Challenge.rw_in0077_01 Mine.K → ∀ (prog : Program) (w : World) (p : Program) (loose : List Str) (mean : ExcName → Option Value) (mg mb : Str → Option Value) (dp un : Nat) (gd : Option (List Code)) (a : Addr) (ccd : Value) (A₀ : Around) (base h₀ : Heap) (L : Addr) (m : Str → Option Value) (s : Shared) (Q : Flow → Shared → Prop) (E : Value → Shared → Prop)
    (R A1 B1 : Addr) (oc : Obj) (va vb : List Value) (wa wb : List Str) (na nb : Nat) (ps : Array Value),
    Below A₀ base [] h₀ → Fr h₀ L s.heap m → (Mine.K w.params).In h₀ → News h₀ L s.heap (lawLed L R A1 B1 oc va vb na nb ps [(797, tabObj #[])]) → Top p loose mean mg mb h₀ → AtBase (Mine.K w.params) p loose mean mg mb base → oc.data = .cell (some (.ref R)) → TextsAre va wa → TextsAre vb wb → JoinRow wa → JoinRow wb → SpellRow wa → SpellRow wb → TabOk jpos ps → AllBare s.gens → dp + 60 < recursionLimit → un + 800 < cLine →
    (∀ s' ps', TabOk jpos ps' → Fr h₀ L s'.heap m → News h₀ L s'.heap (lawLed L R A1 B1 oc va vb na nb ps' [(797, tabObj #[])]) → AllBare s'.gens → s'.os = s.os → Q .next s') →
    wpAny (model prog w) (lawA dp un gd L a ccd (fnS [40])) (exec (stAt (fnB [40]) 1) (lawX L a ccd (fnS [40]))) Q E s := by
  k_fill
  intro _ prog w p loose mean mg mb dp un gd a ccd A₀ base h₀ L m s Q E R A1 B1 oc va vb wa wb na nb ps B F X N T XB hoc hva hvb hja hjb hsa hsb hps hg hd hu hQ
  refine' lit_st (A := fun sc => lawA dp un gd L a ccd sc) (env := fun sc => lawX L a ccd sc) ?q1 ?q2 ?_
  case q1 => walk_at "WHNF"
  case q2 => walk_at "WHNF"
  obtain ⟨XB1, XB2⟩ := XB
  k_steps
  show wpAny _ _ _ _ _ _
  rename Fr _ _ _ _ => F5
  refine comp_own false F5 rfl (by with_unfolding_all rfl) (by rfl) (by decide) ⟨by decide, by rfl⟩ ?_
  k_steps
  show SrcG _ _ _ _ _ _ _ _ _ _ _ _ _ _ _ _
  rename Fr _ _ _ _ => F5
  rename News _ _ _ _ => N5
  refine ⟨R, [.ref A1, .ref B1], 0, _, fun i ys nw => JoinJ (fun ps' => lawLed L R A1 B1 oc va vb na nb ps' [(797, tabObj #[])]) (([wa, wb].take i).map joinF) ys nw, rfl, F5, N5, ?_, hg, .mk hps .nil, ?_, ?_, ?_⟩
  case refine_1 => rw [sizeLine_eq]; show 2 ≤ 16777216; decide
  case refine_2 => intro i ys nw hJ; induction hJ; exact .tail _ (.head _)
  case refine_3 =>
    clear F5 N5
    refine turnsG_none ?_
    intro i v ys nw I oI D C oC m₂ s₂ E' hv hcl hJ
    induction hJ
    rename_i ps' hps' hys
    intro hC hx2 F N off nd hg' ho'
    dsimp only [mkEnv]
    have hX : RowX (lawLed L R A1 B1 oc va vb na nb ps' [(797, tabObj #[])]) JoinRow (fun i wx => ([wa, wb].take (i + 1)).map joinF = ([wa, wb].take i).map joinF ++ [joinF wx]) i v := by
      match i, hv with
      | 0, hv => exact ⟨A1, va, wa, na, (Option.some.inj hv).symm, .tail _ (.tail _ (.tail _ (.head _))), hva, hja, rfl⟩
      | 1, hv => exact ⟨B1, vb, wb, nb, (Option.some.inj hv).symm, .tail _ (.tail _ (.head _)), hvb, hjb, rfl⟩
      | n + 2, hv => simp at hv
    obtain ⟨X1, vx, wx, nx, rfl, hXm, hvx, hjx, hstep⟩ := hX
    k_steps
    show wpAny _ _ _ _ _ _
    have z := offB_at off (x := 760) (.tail _ (.tail _ (.tail _ (.tail _ (.head _)))))
    refine call_join trivial (front := [(I, oI), (C, oC), (D, LCg.lst ys)]) B (by assumption) X T (by assumption) (fc z.1 (fc z.2.1 (fc z.2.2 f0))) hoc hXm hvx hjx hps' hg' rfl (by omega) (by omega) fun t ps2 s3 hps2 F3 N3 hg3 ho3 => ?_
    exact ⟨lawLed L R A1 B1 oc va vb na nb ps2 [(797, tabObj #[])], F3, N3, offB_map off rfl, .mk hps2 (by rw [hstep]; exact strs_snoc hys), hg3, ho3.trans ho'⟩
  case refine_4 =>
    clear F5 N5
    intro ys nw D s₂ hJ
    induction hJ
    rename_i ps' hps' hys
    intro F N hD hg' ho'
    dsimp only [mWith, vWith] at F ⊢
    k_steps
    show wpAny _ _ _ _ _ _
    rename Fr _ _ _ _ => F5
    refine comp_own false F5 rfl (by with_unfolding_all rfl) (by rfl) (by decide) ⟨by decide, by rfl⟩ ?_
    k_steps
    show SrcG _ _ _ _ _ _ _ _ _ _ _ _ _ _ _ _
    rename Fr _ _ _ _ => F5
    rename News _ _ _ _ => N5
    refine ⟨R, [.ref A1, .ref B1], 0, _, fun i zs nw => FullJ ((D, LCg.lst ys) :: lawLed L R A1 B1 oc va vb na nb ps' [(797, tabObj #[])]) (([wa, wb].take i).map joinF) zs nw, rfl, F5, N5, ?_, hg', .mk .nil, ?_, ?_, ?_⟩
    case refine_1 => rw [sizeLine_eq]; show 2 ≤ 16777216; decide
    case refine_2 => intro i ys nw hJ; induction hJ; exact .tail _ (.tail _ (.head _))
    case refine_3 =>
      clear F5 N5
      refine turnsG_none ?_
      intro i v zs nw I oI D2 C oC m₂ s₃ E' hv hcl hJ
      induction hJ
      rename_i hzs
      intro hC hx2 F N off nd hg2 ho2
      dsimp only [mkEnv]
      have hX : RowX (lawLed L R A1 B1 oc va vb na nb ps' [(797, tabObj #[])]) SpellRow (fun i wx => ([wa, wb].take (i + 1)).map joinF = ([wa, wb].take i).map joinF ++ [joinF wx]) i v := by
        match i, hv with
        | 0, hv => exact ⟨A1, va, wa, na, (Option.some.inj hv).symm, .tail _ (.tail _ (.tail _ (.head _))), hva, hsa, rfl⟩
        | 1, hv => exact ⟨B1, vb, wb, nb, (Option.some.inj hv).symm, .tail _ (.tail _ (.head _)), hvb, hsb, rfl⟩
        | n + 2, hv => simp at hv
      obtain ⟨X1, vx, wx, nx, rfl, hXm, hvx, hsx, hstep⟩ := hX
      k_steps
      show wpAny _ _ _ _ _ _
      rename Fr _ _ _ _ => F6
      rename News _ _ _ _ => N6
      refine call_spell trivial B F6 X T N6 (.tail _ (.tail _ (.tail _ (.tail _ hXm)))) hvx hsx rfl (by omega) (by omega) fun t h3 tk3 F3 N3 => ?_
      exact ⟨_, F3, N3, off, .mk (by rw [hstep]; exact strs_snoc hzs), hg2, ho2⟩
    case refine_4 =>
      clear F5 N5
      intro zs nw D2 s₃ hJ
      induction hJ
      rename_i hzs
      intro F N hD2 hg2 ho2
      dsimp only [mWith, vWith] at F ⊢
      have hE1 : DatAll [] ys ((([wa, wb].take 2).map joinF).map Dat.str) := strs_dat hys
      have hE2 : DatAll [] zs ((([wa, wb].take 2).map joinF).map Dat.str) := strs_dat hzs
      have hE3 : ∀ d ∈ (([wa, wb].take 2).map joinF).map Dat.str, kqdOk 8 d = true := by
        intro d hd
        simp only [List.take, List.map_cons, List.map_nil, List.mem_cons, List.not_mem_nil, or_false] at hd
        rcases hd with rfl | rfl
        · exact hsa.ok
        · exact hsb.ok
      k_steps
      exact hQ s₃ ps' hps' F (news_tl (news_tl N)) hg2 (by rw [ho2, ho'])
noncomputable def RowsAre (ys : List Value) (nw : List (Addr × Obj)) (rs : List (List Str)) : Prop :=
  ys.length = rs.length ∧ ∀ (i : Nat) v, ys[i]? = some v → ∃ S vs n r, v = .ref S ∧ (S, listOf (List.toArray vs) n) ∈ nw ∧ rs[i]? = some r ∧ TextsAre vs r
theorem RowsAre.mono {ys : List Value} {nw nw' : List (Addr × Obj)} {rs : List (List Str)} (h : RowsAre ys nw rs) (k : ∀ S vs n, (S, listOf (List.toArray vs) n) ∈ nw → (S, listOf (List.toArray vs) n) ∈ nw') : RowsAre ys nw' rs :=
  ⟨h.1, fun i v hv => let ⟨S, vs, n, r, e, m, r1, r2⟩ := h.2 i v hv; ⟨S, vs, n, r, e, k _ _ _ m, r1, r2⟩⟩
theorem RowsAre.snoc {ys : List Value} {nw : List (Addr × Obj)} {rs : List (List Str)} {S : Addr} {vs : List Value} {n : Nat} {r : List Str} (h : RowsAre ys nw rs) (m : (S, listOf (List.toArray vs) n) ∈ nw) (t : TextsAre vs r) : RowsAre (ys ++ [.ref S]) nw (rs ++ [r]) := by
  refine ⟨by rw [List.length_append, List.length_append, h.1]; rfl, fun i v hv => ?_⟩
  rcases Nat.lt_or_ge i ys.length with hi | hi
  · rw [List.getElem?_append_left hi] at hv
    obtain ⟨S', vs', n', r', e, m', r1, r2⟩ := h.2 i v hv
    exact ⟨S', vs', n', r', e, m', by rw [List.getElem?_append_left (h.1 ▸ hi)]; exact r1, r2⟩
  · rw [List.getElem?_append_right hi] at hv
    have h0 : i - ys.length = 0 := by
      cases hz : i - ys.length with
      | zero => rfl
      | succ z => rw [hz] at hv; simp at hv
    rw [h0] at hv
    refine ⟨S, vs, n, r, (Option.some.inj hv).symm, m, ?_, t⟩
    rw [List.getElem?_append_right (h.1 ▸ hi), ← h.1, h0]
    rfl
structure SplitRow (ws : List Str) : Prop where
  some_ : ws ≠ []
  short : (joinF ws).length ≤ 1000
  toks : Toks (joinF ws ++ Str.ofString " # it's") 0 ws
  len : ws.length ≤ 20
theorem texts_ne_refs {vs ys : List Value} {r : List Str} {n : Nat} (h : TextsAre vs r) (hr : r ≠ []) (hy : ∀ v ∈ ys, ∃ S, v = .ref S) : listOf vs.toArray n ≠ LCg.lst ys := fun e => by
  have e1 : vs = ys := by
    have := congrArg Obj.data e
    injection this with h1 h2
    simpa using h1
  subst e1
  cases vs with
  | nil => cases r with | nil => exact hr rfl | cons => exact h.elim
  | cons v q =>
    cases r with
    | nil => exact h.elim
    | cons x r =>
      obtain ⟨⟨t, rfl⟩, _⟩ := h
      obtain ⟨S, e⟩ := hy _ (.head _)
      cases e
theorem RowsAre.refs {ys : List Value} {nw : List (Addr × Obj)} {rs : List (List Str)} (h : RowsAre ys nw rs) : ∀ v ∈ ys, ∃ S, v = .ref S := fun v hv => by
  obtain ⟨i, hi⟩ := List.getElem?_of_mem hv
  obtain ⟨S, _, _, _, e, _⟩ := h.2 i v hi
  exact ⟨S, e⟩
theorem list_ne_ns {its : Array Value} {n : Nat} {oC : Obj} {m₂ : Str → Option Value} (h : LCg.NsObj oC m₂) : listOf its n ≠ oC := fun e => by
  obtain ⟨es, ep, hd, _⟩ := h
  rw [← e] at hd
  cases hd
theorem list_ne_iter {its : Array Value} {n : Nat} {oI : Obj} (h : oI.cls = .type "list_iterator") : listOf its n ≠ oI := fun e => by
  rw [← e] at h
  injection h with h
  exact absurd h (by decide)
inductive FoundJ (f : Array Value → List (Addr × Obj)) (rr : List (List Str)) (ys : List Value) : List (Addr × Obj) → Prop
  | mk {ps' : Array Value} {ss : List (Addr × Obj)} (h1 : TabOk jpos ps') (h2 : ∀ q ∈ ss, ∃ vs n, q.2 = listOf vs n) (h3 : RowsAre ys (ss ++ f ps') rr) : FoundJ f rr ys (ss ++ f ps')
theorem s_found : Wants PySem.Challenge.rw_in0077_01 Mine.K → ∀ (prog : Program) (w : World) (p : Program) (loose : List Str) (mean : ExcName → Option Value) (mg mb : Str → Option Value) (dp un : Nat) (gd : Option (List Code)) (a : Addr) (ccd : Value) (A₀ : Around) (base h₀ : Heap) (L : Addr) (m : Str → Option Value) (s : Shared) (Q : Flow → Shared → Prop) (E : Value → Shared → Prop)
    (R A1 B1 : Addr) (oc : Obj) (va vb : List Value) (wa wb : List Str) (na nb : Nat) (ps : Array Value),
    Below A₀ base [] h₀ → Fr h₀ L s.heap m → (Mine.K w.params).In h₀ → News h₀ L s.heap (lawLed L R A1 B1 oc va vb na nb ps [(797, tabObj #[])]) → Top p loose mean mg mb h₀ → AtBase (Mine.K w.params) p loose mean mg mb base → oc.data = .cell (some (.ref R)) → TextsAre va wa → TextsAre vb wb → JoinRow wa → JoinRow wb → SplitRow wa → SplitRow wb → TabOk jpos ps → AllBare s.gens → dp + 60 < recursionLimit → un + 800 < cLine →
    (∀ s' ps' Fd ys ss, RowsAre ys (ss ++ lawLed L R A1 B1 oc va vb na nb ps' [(797, tabObj #[])]) [wa, wb] → Fr h₀ L s'.heap (fun z => if z = Str.ofString "found" then some (.ref Fd) else m z) → News h₀ L s'.heap ((Fd, LCg.lst ys) :: (ss ++ lawLed L R A1 B1 oc va vb na nb ps' [(797, tabObj #[])])) → AllBare s'.gens → s'.os = s.os → Q .next s') →
    wpAny (model prog w) (lawA dp un gd L a ccd (fnS [40])) (exec (stAt (fnB [40]) 2) (lawX L a ccd (fnS [40]))) Q E s := by
  k_fill
  intro _ prog w p loose mean mg mb dp un gd a ccd A₀ base h₀ L m s Q E R A1 B1 oc va vb wa wb na nb ps B F X N T XB hoc hva hvb hja hjb hsa hsb hps hg hd hu hQ
  refine' lit_st (A := fun sc => lawA dp un gd L a ccd sc) (env := fun sc => lawX L a ccd sc) ?q1 ?q2 ?_
  case q1 => walk_at "WHNF"
  case q2 => walk_at "WHNF"
  refine comp_asg false F (by rfl) rfl (by with_unfolding_all rfl) (by with_unfolding_all rfl) (by rfl) (by decide) ⟨by decide, by rfl⟩ (by rfl) (by rfl) ?_
  k_steps
  show SrcG _ _ _ _ _ _ _ _ _ _ _ _ _ _ _ _
  rename Fr _ _ _ _ => F5
  rename News _ _ _ _ => N5
  refine ⟨R, [.ref A1, .ref B1], 0, _, fun i ys nw => FoundJ (fun ps' => lawLed L R A1 B1 oc va vb na nb ps' [(797, tabObj #[])]) ([wa, wb].take i) ys nw, rfl, F5, N5, ?_, hg, .mk (ss := []) hps f0 ⟨rfl, fun i v hv => by simp at hv⟩, ?_, ?_, ?_⟩
  case refine_1 => rw [sizeLine_eq]; show 2 ≤ 16777216; decide
  case refine_2 => intro i ys nw hJ; induction hJ; exact List.mem_append_right _ (.tail _ (.head _))
  case refine_3 =>
    clear F5 N5
    refine turnsG_none ?_
    intro i v ys nw I oI D C oC m₂ s₂ E' hv hcl hJ
    induction hJ
    rename_i ps' ss hps' hss hys
    intro hC hx2 F N off nd hg' ho'
    dsimp only [mkEnv]
    have hX : RowX (lawLed L R A1 B1 oc va vb na nb ps' [(797, tabObj #[])]) (fun wx => JoinRow wx ∧ SplitRow wx) (fun i wx => ([wa, wb].take (i + 1)) = ([wa, wb].take i) ++ [wx]) i v := by
      match i, hv with
      | 0, hv => exact ⟨A1, va, wa, na, (Option.some.inj hv).symm, .tail _ (.tail _ (.tail _ (.head _))), hva, ⟨hja, hsa⟩, rfl⟩
      | 1, hv => exact ⟨B1, vb, wb, nb, (Option.some.inj hv).symm, .tail _ (.tail _ (.head _)), hvb, ⟨hjb, hsb⟩, rfl⟩
      | n + 2, hv => simp at hv
    obtain ⟨X1, vx, wx, nx, rfl, hXm, hvx, ⟨hjx, hsx⟩, hstep⟩ := hX
    k_steps
    show wpAny _ _ _ _ _ _
    have z := offB_at off (x := 760) (List.mem_append_right _ (.tail _ (.tail _ (.tail _ (.tail _ (.head _))))))
    have hs9 : joinF wx ++ Str.ofString " # it's" = joinF wx ++ Str.ofString " # it's" := rfl
    have hlen := hsx.short
    refine call_join trivial (front := [(I, oI), (C, oC), (D, LCg.lst ys)] ++ ss) B (by assumption) X T (news_sub N (by walk_at "SUBM")) (fa (fc z.1 (fc z.2.1 (fc z.2.2 f0))) fun q hq => ?_) hoc hXm hvx hjx hps' hg' rfl (by omega) (by omega) fun t ps2 s3 hps2 F3 N3 hg3 ho3 => ?_
    · obtain ⟨vs, n, e⟩ := hss q hq
      exact news_apart N (.tail _ (.tail _ (.tail _ (List.mem_append_left _ (show (q.1, listOf vs n) ∈ ss from e ▸ hq))))) (.tail _ (.tail _ (.tail _ (List.mem_append_right _ (.tail _ (.tail _ (.tail _ (.tail _ (.head _)))))))))  list_ne_tab
    · clear N
      replace N3 : News h₀ L s3.heap ((I, oI) :: (C, oC) :: (D, LCg.lst ys) :: (ss ++ lawLed L R A1 B1 oc va vb na nb ps2 [(797, tabObj #[])])) := news_sub N3 (by walk_at "SUBM")
      k_steps
      show wpAny _ _ _ _ _ _
      rename Fr _ _ _ _ => F6
      rename News _ _ _ _ => N6
      show wpAny _ _ (call (.ref 758) [.str _ _] [(Str.ofString "comments", .bool true)]) _ _ _
      have hb : (joinF wx ++ Str.ofString " # it's").length < 2 ^ 20 := by
        have e : (joinF wx ++ Str.ofString " # it's").length = (joinF wx).length + (Str.ofString " # it's").length := Str.length_append _ _
        have e2 : (Str.ofString " # it's").length = 7 := by decide
        rw [e, e2]; omega
      refine c_split trivial _ _ _ _ _ _ _ _ _ _ _ hsx.toks hb (Nat.le_trans hsx.len (by decide)) _ _ _ _ _ _ _ _ _ _ _ _ _ _ _ _ B F6 X N6 T XB rfl (by omega) (by omega) fun v news' h' tk' hO F7 N7 => ?_
      obtain ⟨S, vs, n, rfl, hvs, rfl⟩ := hO
      have hrefs := hys.refs
      have dI : @Ne Nat S I := news_apart N7 (.head _) (.tail _ (.head _)) (list_ne_iter hcl)
      have dC : @Ne Nat S C := news_apart N7 (.head _) (.tail _ (.tail _ (.head _))) (list_ne_ns hC)
      have dD : @Ne Nat S D := news_apart N7 (.head _) (.tail _ (.tail _ (.tail _ (.head _)))) (texts_ne_refs hvs hsx.some_ hrefs)
      refine ⟨((S, listOf vs.toArray n) :: ss) ++ lawLed L R A1 B1 oc va vb na nb ps2 [(797, tabObj #[])], F7, news_sub N7 ?_, ?_, .mk (ss := (S, listOf vs.toArray n) :: ss) hps2 (fc ⟨vs.toArray, n, rfl⟩ hss) ?_, hg3, ho3.trans ho'⟩
      · walk_at "SUBM"
      · exact fa (fc ⟨dI, dD, fc dC f0⟩ fun q hq => off q (List.mem_append_left _ hq))
          (offB_map (nw := lawLed L R A1 B1 oc va vb na nb ps' [(797, tabObj #[])]) (nw' := lawLed L R A1 B1 oc va vb na nb ps2 [(797, tabObj #[])]) (fun p hp => off p (List.mem_append_right _ hp)) rfl)
      · rw [hstep]
        refine RowsAre.snoc (hys.mono fun S' vs' n' hm' => ?_) (List.mem_append_left _ (.head _)) hvs
        rcases List.mem_append.mp hm' with h | h
        · exact List.mem_append_left _ (.tail _ h)
        · refine List.mem_append_right _ ?_
          simp only [List.mem_cons, List.not_mem_nil, or_false] at h ⊢
          rcases h with h | h | h | h | h | h
          · exact .inl h
          · exact .inr (.inl h)
          · exact .inr (.inr (.inl h))
          · exact .inr (.inr (.inr (.inl h)))
          · exact absurd (congrArg Prod.snd h) list_ne_tab
          · exact .inr (.inr (.inr (.inr (.inr h))))
  case refine_4 =>
    clear F5 N5
    intro ys nw D s₂ hJ
    induction hJ
    rename_i ps' ss hps' hss hys
    intro F N hD hg' ho'
    exact hQ s₂ ps' D ys ss hys F N hg' ho'
section
local macro_rules | `(tactic| walk_at "compareOp NotEq ref ref") => `(tactic| (refine stop_here ?_))
theorem RowsAre.dat {ys : List Value} {nw : List (Addr × Obj)} {rs : List (List Str)} (h : RowsAre ys nw rs) : DatAll nw ys (rs.map fun r => Dat.list (r.map Dat.str)) := by
  obtain ⟨hl, hr⟩ := h
  induction ys generalizing rs with
  | nil => cases rs with | nil => exact .nil | cons => simp at hl
  | cons v q ih =>
    cases rs with
    | nil => simp at hl
    | cons r rs =>
      obtain ⟨S, vs, n, r', e, hm, h1, h2⟩ := hr 0 v rfl
      simp at h1
      subst h1
      subst e
      refine .cons (.list hm (strs_dat (texts_strs h2))) (ih (by simpa using hl) fun i v hv => ?_)
      obtain ⟨S', vs', n', r'', e', m', z1, z2⟩ := hr (i + 1) v (by simpa using hv)
      exact ⟨S', vs', n', r'', e', m', by simpa using z1, z2⟩
theorem rows_ok {rs : List (List Str)} (h : ∀ r ∈ rs, ∀ y ∈ r, PyData.strOk y = true) : ∀ d ∈ rs.map (fun r => Dat.list (r.map Dat.str)), kqdOk 8 d = true := by
  intro d hd
  obtain ⟨r, hr, rfl⟩ := List.mem_map.mp hd
  simp only [kqdOk, List.all_eq_true, List.mem_map]
  rintro _ ⟨y, hy, rfl⟩
  exact h r hr y hy
theorem s_same : Wants PySem.Challenge.rw_in0077_01 Mine.K → ∀ (prog : Program) (w : World) (p : Program) (loose : List Str) (mean : ExcName → Option Value) (mg mb : Str → Option Value) (dp un : Nat) (gd : Option (List Code)) (a : Addr) (ccd : Value) (A₀ : Around) (base h₀ : Heap) (L : Addr) (m : Str → Option Value) (s : Shared) (Q : Flow → Shared → Prop) (E : Value → Shared → Prop)
    (R Fd : Addr) (oc : Obj) (rv ys : List Value) (rs : List (List Str)) (nw0 : List (Addr × Obj)),
    Below A₀ base [] h₀ → Fr h₀ L s.heap (fun z => if z = Str.ofString "found" then some (.ref Fd) else m z) → (Mine.K w.params).In h₀ → News h₀ L s.heap ((Fd, LCg.lst ys) :: (L + 1, oc) :: (R, listOf rv.toArray 0) :: nw0) → Top p loose mean mg mb h₀ → oc.data = .cell (some (.ref R)) → RowsAre rv nw0 rs → RowsAre ys nw0 rs → (∀ r ∈ rs, ∀ y ∈ r, PyData.strOk y = true) → dp + 60 < recursionLimit → un + 800 < cLine →
    Q .next s →
    wpAny (model prog w) (lawA dp un gd L a ccd (fnS [40])) (exec (stAt (fnB [40]) 3) (lawX L a ccd (fnS [40]))) Q E s := by
  k_fill
  intro _ prog w p loose mean mg mb dp un gd a ccd A₀ base h₀ L m s Q E R Fd oc rv ys rs nw0 B F X N T hoc hr1 hr2 hok hd hu hQ
  refine' lit_st (A := fun sc => lawA dp un gd L a ccd sc) (env := fun sc => lawX L a ccd sc) ?q1 ?q2 ?_
  case q1 => walk_at "WHNF"
  case q2 => walk_at "WHNF"
  k_steps
  show wpAny _ _ _ _ _ _
  refine kqd_ne (n₁ := nw0) (n₂ := nw0) N (.head _) rfl rfl hr2.dat (fun q hq => .tail _ (.tail _ (.tail _ hq))) (.tail _ (.tail _ (.head _))) rfl rfl hr1.dat (fun q hq => .tail _ (.tail _ (.tail _ hq))) (rows_ok hok) (rows_ok hok) (by show un + 64 < cLine; omega) ?_
  simp only [decide_true, Bool.not_true]
  k_steps
  exact hQ
end
noncomputable def TapesAre (ts : List Value) (rs : List (List Str)) : Prop :=
  ts.length = rs.length ∧ ∀ (i : Nat) v, ts[i]? = some v → ∃ b t r, v = .bytes b t ∧ rs[i]? = some r ∧ KBw.bInts b = tapeF r.length r
theorem TapesAre.snoc {ts : List Value} {rs : List (List Str)} {b : Array UInt8} {t : Tok} {r : List Str} (h : TapesAre ts rs) (e : KBw.bInts b = tapeF r.length r) : TapesAre (ts ++ [.bytes b t]) (rs ++ [r]) := by
  refine ⟨by rw [List.length_append, List.length_append, h.1]; rfl, fun i v hv => ?_⟩
  rcases Nat.lt_or_ge i ts.length with hi | hi
  · rw [List.getElem?_append_left hi] at hv
    obtain ⟨b', t', r', e', m', r1⟩ := h.2 i v hv
    exact ⟨b', t', r', e', by rw [List.getElem?_append_left (h.1 ▸ hi)]; exact m', r1⟩
  · rw [List.getElem?_append_right hi] at hv
    have h0 : i - ts.length = 0 := by
      cases hz : i - ts.length with
      | zero => rfl
      | succ z => rw [hz] at hv; simp at hv
    rw [h0] at hv
    refine ⟨b, t, r, (Option.some.inj hv).symm, ?_, e⟩
    rw [List.getElem?_append_right (h.1 ▸ hi), ← h.1, h0]
    rfl
structure TapeRow (ws : List Str) : Prop where
  len : ws.length ≤ 20
  short : ∀ y ∈ ws, y.length ≤ 255 ∧ ∀ c ∈ y.cps.toList, c < 256
theorem RowsAre.at {ys : List Value} {nw : List (Addr × Obj)} {rs : List (List Str)} {i : Nat} {v : Value} (h : RowsAre ys nw rs) (hv : ys[i]? = some v) : ∃ S vs n r, v = .ref S ∧ (S, listOf (List.toArray vs) n) ∈ nw ∧ r ∈ rs ∧ rs.take (i + 1) = rs.take i ++ [r] ∧ rs[i]? = some r ∧ TextsAre vs r := by
  obtain ⟨S, vs, n, r, e, m, hr, t⟩ := h.2 i v hv
  have hlt : i < rs.length := (List.getElem?_eq_some_iff.mp hr).1
  refine ⟨S, vs, n, r, e, m, List.mem_of_getElem? hr, ?_, hr, t⟩
  rw [List.take_succ, hr]
  rfl
inductive TapesJ (full : List (Addr × Obj)) (rr : List (List Str)) (ts : List Value) : List (Addr × Obj) → Prop
  | mk (h : TapesAre ts rr) : TapesJ full rr ts full
theorem s_tapes : Wants PySem.Challenge.rw_in0077_01 Mine.K → ∀ (prog : Program) (w : World) (p : Program) (loose : List Str) (mean : ExcName → Option Value) (mg mb : Str → Option Value) (dp un : Nat) (gd : Option (List Code)) (a : Addr) (ccd : Value) (A₀ : Around) (base h₀ : Heap) (L : Addr) (m : Str → Option Value) (s : Shared) (Q : Flow → Shared → Prop) (E : Value → Shared → Prop)
    (Fd : Addr) (ys : List Value) (rs : List (List Str)) (nw : List (Addr × Obj)),
    Below A₀ base [] h₀ → Fr h₀ L s.heap (fun z => if z = Str.ofString "found" then some (.ref Fd) else m z) → (Mine.K w.params).In h₀ → News h₀ L s.heap ((Fd, LCg.lst ys) :: nw) → Top p loose mean mg mb h₀ → RowsAre ys nw rs → rs.length ≤ 10 → (∀ r ∈ rs, TapeRow r) → AllBare s.gens → dp + 60 < recursionLimit → un + 800 < cLine →
    (∀ s' Tp ts, TapesAre ts rs → Fr h₀ L s'.heap (fun z => if z = Str.ofString "tapes" then some (.ref Tp) else if z = Str.ofString "found" then some (.ref Fd) else m z) → News h₀ L s'.heap ((Tp, LCg.lst ts) :: (Fd, LCg.lst ys) :: nw) → AllBare s'.gens → s'.os = s.os → Q .next s') →
    wpAny (model prog w) (lawA dp un gd L a ccd (fnS [40])) (exec (stAt (fnB [40]) 4) (lawX L a ccd (fnS [40]))) Q E s := by
  k_fill
  intro _ prog w p loose mean mg mb dp un gd a ccd A₀ base h₀ L m s Q E Fd ys rs nw B F X N T hr hrl hrs hg hd hu hQ
  refine' lit_st (A := fun sc => lawA dp un gd L a ccd sc) (env := fun sc => lawX L a ccd sc) ?q1 ?q2 ?_
  case q1 => walk_at "WHNF"
  case q2 => walk_at "WHNF"
  refine comp_asg false F (by rfl) rfl (by with_unfolding_all rfl) (by with_unfolding_all rfl) (by rfl) (by decide) ⟨by decide, by rfl⟩ (by rfl) (by rfl) ?_
  k_steps
  show SrcG _ _ _ _ _ _ _ _ _ _ _ _ _ _ _ _
  rename Fr _ _ _ _ => F5
  rename News _ _ _ _ => N5
  refine ⟨Fd, ys, ys.length, _, fun i ts nw' => TapesJ ((Fd, LCg.lst ys) :: nw) (rs.take i) ts nw', rfl, F5, N5, ?_, hg, .mk ⟨rfl, fun i v hv => by simp at hv⟩, ?_, ?_, ?_⟩
  case refine_1 => rw [sizeLine_eq, hr.1]; omega
  case refine_2 => intro i ts nw' hJ; induction hJ; exact .head _
  case refine_3 =>
    clear F5 N5
    refine turnsG_none ?_
    intro i v ts nw' I oI D C oC m₂ s₂ E' hv hcl hJ
    induction hJ
    rename_i hts
    intro hC hx2 F N off nd hg' ho'
    dsimp only [mkEnv]
    obtain ⟨S, vs, n, r, rfl, hS, hrm, hstep, _, hvs⟩ := hr.at hv
    have hR := hrs r hrm
    k_steps
    show wpAny _ _ _ _ _ _
    rename Fr _ _ _ _ => F6
    rename News _ _ _ _ => N6
    refine c_tape trivial _ _ _ _ _ _ _ ((I, oI) :: (C, oC) :: (D, LCg.lst ts) :: (Fd, LCg.lst ys) :: nw) S vs r n hvs hR.len hR.short _ _ _ _ _ _ _ _ _ _ _ _ _ _ _ _ _ B F6 X (fc (N6 _ (.tail _ (.tail _ (.tail _ (.tail _ hS))))) N6) T rfl (by omega) (by omega) fun v news' h' tk' hO F7 N7 => ?_
    obtain ⟨rfl, b, t, rfl, hb⟩ := hO
    exact ⟨_, F7, news_tl N7, off, .mk (by rw [hstep]; exact hts.snoc hb), hg', ho'⟩
  case refine_4 =>
    clear F5 N5
    intro ts nw' D s₂ hJ
    induction hJ
    rename_i hts
    intro F N hD hg' ho'
    rw [hr.1, List.take_length] at hts
    exact hQ s₂ D ts hts F N hg' ho'
structure Told (n : Nat) (d : Dat) : Prop where
  rd : ∀ {h₀ h : Heap} {L : Addr} {news : List (Addr × Obj)} {v : Value}, News h₀ L h news → DatIn news v d → ∃ as, Reads h v (kqdP d) as
  lay : (kqdP d).canLay0 = true
  deep : (kqdP d).depth ≤ n
structure ToldAll (n : Nat) (ds : List Dat) : Prop where
  rd : ∀ {h₀ h : Heap} {L : Addr} {news : List (Addr × Obj)} {vs : List Value}, News h₀ L h news → DatAll news vs ds → ∃ as, ReadsAll h vs (kqdPs ds) as
  lay : PyData.canLayAll0 (kqdPs ds) = true
  deep : PyData.depthAll (kqdPs ds) ≤ n
theorem Told.row {n : Nat} {ds : List Dat} (t : ∀ d ∈ ds, Told n d) : ToldAll n ds := by
  induction ds with
  | nil => exact ⟨fun _ D => by cases D; exact ⟨_, .nil⟩, by simp [kqdPs, PyData.canLayAll0], by simp [kqdPs, PyData.depthAll]⟩
  | cons d ds ih =>
    have a := t d List.mem_cons_self
    have b := ih fun e he => t e (List.mem_cons_of_mem _ he)
    refine ⟨fun N D => ?_, ?_, ?_⟩
    · cases D with
      | cons x y =>
        obtain ⟨_, p⟩ := a.rd N x
        obtain ⟨_, q⟩ := b.rd N y
        exact kqdPs.eq_2 d ds ▸ ⟨_, ReadsAll.cons p q⟩
    · simp [kqdPs, PyData.canLayAll0, a.lay, b.lay]
    · have := a.deep
      have := b.deep
      simp only [kqdPs, PyData.depthAll]
      omega
theorem Told.bool (n : Nat) (b : Bool) : Told n (.bool b) := ⟨fun _ D => by cases D; exact ⟨_, .bool b⟩, by simp [kqdP, PyData.canLay0], by simp [kqdP, PyData.depth]⟩
theorem Told.str (n : Nat) {x : Str} (k : PyData.strOk x = true) : Told n (.str x) := ⟨fun _ D => by cases D; exact ⟨_, .str x _⟩, by simp [kqdP, PyData.canLay0, k], by simp [kqdP, PyData.depth]⟩
theorem Told.tuple {n : Nat} {ds : List Dat} (t : ∀ d ∈ ds, Told n d) : Told (n + 1) (.tuple ds) := by
  have r := Told.row t
  refine ⟨fun N D => ?_, by simp [kqdP, PyData.canLay0, r.lay], by have := r.deep; simp [kqdP, PyData.depth]; omega⟩
  cases D with
  | tuple m y =>
    obtain ⟨as, q⟩ := r.rd N y
    exact kqdP.eq_6 ds ▸ ⟨as, reads_tuple_at (N.get m) rfl rfl q⟩
theorem Told.list {n : Nat} {ds : List Dat} (t : ∀ d ∈ ds, Told n d) : Told (n + 1) (.list ds) := by
  have r := Told.row t
  refine ⟨fun N D => ?_, by simp [kqdP, PyData.canLay0, r.lay], by have := r.deep; simp [kqdP, PyData.depth]; omega⟩
  cases D with
  | list m y =>
    obtain ⟨as, q⟩ := r.rd N y
    exact kqdP.eq_7 ds ▸ ⟨_, reads_list_at (N.get m) rfl rfl q⟩
theorem Told.strs (n : Nat) {xs : List Str} (k : ∀ x ∈ xs, PyData.strOk x = true) : Told (n + 1) (.list (xs.map Dat.str)) := Told.list fun d hd => by
  obtain ⟨x, hx, rfl⟩ := List.mem_map.mp hd
  exact Told.str n (k x hx)
section
variable {prog : Program} {w : World} {A : Around} {E : Value → Shared → Prop} {s : Shared} {h₀ : Heap} {L : Addr} {news n₁ n₂ : List (Addr × Obj)} {v u : Value} {d : Dat} {Q : Value → Shared → Prop}
theorem Told.shaped (t : Told 9 d) : SeqAt.shaped (kqdP d) = true := by
  have := t.deep
  simp only [SeqAt.shaped, t.lay, Bool.true_and, decide_eq_true_eq]
  omega
theorem cmp_ne_same (N : News h₀ L s.heap news) (D1 : DatIn n₁ v d) (s1 : ∀ p ∈ n₁, p ∈ news) (D2 : DatIn n₂ u d) (s2 : ∀ p ∈ n₂, p ∈ news) (t : Told 9 d) (hu : A.units + 64 < cLine) (h : Q (.bool false) s) : wpAny (model prog w) A (compareOp .NotEq v u) Q E s := by
  obtain ⟨_, ra⟩ := t.rd N (D1.mono s1)
  obtain ⟨_, rb⟩ := t.rd N (D2.mono s2)
  exact PyProof.Rows.ne_dataH ra rb t.shaped t.shaped hu ((SeqAt.eqv_refl _ t.lay).symm ▸ h)
theorem cmp_eq_same (N : News h₀ L s.heap news) (D1 : DatIn n₁ v d) (s1 : ∀ p ∈ n₁, p ∈ news) (D2 : DatIn n₂ u d) (s2 : ∀ p ∈ n₂, p ∈ news) (t : Told 9 d) (hu : A.units + 64 < cLine) (h : Q (.bool true) s) : wpAny (model prog w) A (compareOp .Eq v u) Q E s := by
  obtain ⟨_, ra⟩ := t.rd N (D1.mono s1)
  obtain ⟨_, rb⟩ := t.rd N (D2.mono s2)
  exact PyProof.Rows.eq_dataH ra rb t.shaped t.shaped hu ((SeqAt.eqv_refl _ t.lay).symm ▸ h)
end
noncomputable def insT (x : Str) : List Str → List Str
  | [] => [x]
  | y :: r => if ltCps y.cps.toList x.cps.toList then y :: insT x r else x :: y :: r
noncomputable def sortT : List Str → List Str
  | [] => []
  | x :: r => insT x (sortT r)
theorem lt_asymmT {x y : Str} (h : ltCps x.cps.toList y.cps.toList = true) : ltCps y.cps.toList x.cps.toList = false := by
  rw [ltCps_eq] at h ⊢
  exact decide_eq_false (List.lt_asymm (of_decide_eq_true h))
theorem lt_transT {x y z : Str} (h : ltCps x.cps.toList y.cps.toList = true) (k : ltCps y.cps.toList z.cps.toList = true) : ltCps x.cps.toList z.cps.toList = true := by
  rw [ltCps_eq] at h k ⊢
  exact decide_eq_true (List.lt_trans (of_decide_eq_true h) (of_decide_eq_true k))
theorem lt_connT {x y : Str} (h : ltCps x.cps.toList y.cps.toList = false) (k : ltCps y.cps.toList x.cps.toList = false) : x = y := by
  rw [ltCps_eq] at h k
  have e : x.cps.toList = y.cps.toList := List.le_antisymm (of_decide_eq_false k) (of_decide_eq_false h)
  cases x; cases y
  exact congrArg _ (Array.toList_inj.mp e)
theorem le_ltT {x y h : Str} (h1 : ltCps h.cps.toList y.cps.toList = false) (h2 : ltCps h.cps.toList x.cps.toList = true) : ltCps y.cps.toList x.cps.toList = true := by
  cases e : ltCps y.cps.toList x.cps.toList with
  | true => rfl
  | false =>
    cases e2 : ltCps x.cps.toList y.cps.toList with
    | true => rw [lt_transT h2 e2] at h1; cases h1
    | false => rw [lt_connT e2 e, h1] at h2; cases h2
theorem ins_two (x y : Str) (l : List Str) : (if ltCps y.cps.toList x.cps.toList then y :: x :: l else x :: y :: l) = if ltCps x.cps.toList y.cps.toList then x :: y :: l else y :: x :: l := by
  cases e : ltCps y.cps.toList x.cps.toList with
  | true => rw [lt_asymmT e]; rfl
  | false =>
    cases e2 : ltCps x.cps.toList y.cps.toList with
    | true => rfl
    | false => rw [lt_connT e2 e]
theorem ins_comm (x y : Str) : ∀ l : List Str, insT x (insT y l) = insT y (insT x l)
  | [] => ins_two x y []
  | h :: r => by
    cases e1 : ltCps h.cps.toList x.cps.toList with
    | true =>
      cases e2 : ltCps h.cps.toList y.cps.toList with
      | true => simp only [insT, e1, e2, if_true, ins_comm x y r]
      | false => simp only [insT, e1, e2, if_true, Bool.false_eq_true, if_false, le_ltT e2 e1]
    | false =>
      cases e2 : ltCps h.cps.toList y.cps.toList with
      | true => simp only [insT, e1, e2, if_true, Bool.false_eq_true, if_false, le_ltT e1 e2]
      | false => simp only [insT, e1, e2, Bool.false_eq_true, if_false]; exact ins_two x y (h :: r)
theorem sort_perm {a b : List Str} (h : a.Perm b) : sortT a = sortT b := by
  induction h with
  | nil => rfl
  | cons x _ ih => exact congrArg (insT x) ih
  | swap x y l => exact ins_comm y x (sortT l)
  | trans _ _ h1 h2 => exact h1.trans h2
theorem ins_perm (x : Str) : ∀ l : List Str, (insT x l).Perm (x :: l)
  | [] => .refl _
  | y :: r => by
    unfold insT
    split
    · exact ((ins_perm x r).cons y).trans (.swap x y r)
    · exact .refl _
theorem sortT_perm : ∀ l : List Str, (sortT l).Perm l
  | [] => .refl _
  | x :: r => (ins_perm x _).trans ((sortT_perm r).cons x)
theorem sort_sorted : ∀ l : List Str, sortedS l = true → sortT l = l
  | [], _ => rfl
  | [x], _ => rfl
  | x :: y :: r, h => by
    have h' : (!ltCps y.cps.toList x.cps.toList && risingS y r) = true := h
    rw [Bool.and_eq_true, Bool.not_eq_true'] at h'
    show insT x (sortT (y :: r)) = _
    rw [sort_sorted (y :: r) h'.2]
    show (if ltCps y.cps.toList x.cps.toList then _ else _) = _
    rw [h'.1]; rfl
theorem sort_unique {ss ss' : List Str} (hp : ss'.Perm ss) (hs : sortedS ss' = true) : ss' = sortT ss := by
  rw [← sort_perm hp, sort_sorted _ hs]
theorem strs_texts {vs : List Value} {ws : List Str} (h : StrsAre vs ws) : TextsAre vs ws := by
  induction h with
  | nil => trivial
  | cons x t _ ih => exact ⟨⟨t, rfl⟩, ih⟩
theorem sorted_T {prog : Program} {w : World} {A : Around} {E : Value → Shared → Prop} {s : Shared} {h₀ : Heap} {L : Addr} {m : Str → Option Value} {news : List (Addr × Obj)} {l : Addr} {vs : List Value} {ss : List Str} {Q : Value → Shared → Prop}
    (F : Fr h₀ L s.heap m) (N : News h₀ L s.heap news) (hl : s.heap.IsList l vs.toArray) (hS : TextsAre vs ss) (h64 : vs.length < 64)
    (h : ∀ (P : Addr) (h' : Heap) (vs' : List Value) (e : Nat), Fr h₀ L h' m → News h₀ L h' ((P, listOf vs'.toArray e) :: news) → (∀ q ∈ news, @LT.lt Nat _ q.1 P) → TextsAre vs' (sortT ss) → Q (.ref P) { s with heap := h' }) :
    wpAny (model prog w) A (call (.builtin "sorted") [.ref l]) Q E s :=
  sorted_N_str F N hl (texts_strs hS) h64 fun h' vs' ss' e F' N' hS' hp' hs' => by
    have e9 := sort_unique hp' hs'
    subst e9
    exact h _ h' vs' e F' N' (fun q hq => Nat.lt_succ_of_lt (Heap.lt_size (N q hq).1)) (strs_texts hS')
theorem argBest_most {α : Type} (f : Nat → α) (lt : α → α → Bool) (hir : ∀ a, lt a a = false) (htr2 : ∀ a b c, lt a b = false → lt b c = false → lt a c = false) (has : ∀ a b, lt a b = true → lt b a = false) :
    ∀ k, argBest (fun i j => lt (f j) (f i)) k ≤ k ∧ ∀ j, j ≤ k → lt (f (argBest (fun i j => lt (f j) (f i)) k)) (f j) = false := by
  intro k
  induction k with
  | zero => exact ⟨Nat.le_refl _, fun j hj => by obtain rfl : j = 0 := Nat.le_zero.mp hj; exact hir _⟩
  | succ k ih =>
    show (if lt (f (argBest _ k)) (f (k + 1)) = true then k + 1 else argBest _ k) ≤ k + 1 ∧ ∀ j, j ≤ k + 1 → lt (f (if lt (f (argBest _ k)) (f (k + 1)) = true then k + 1 else argBest _ k)) (f j) = false
    split
    · rename_i hb
      refine ⟨Nat.le_refl _, fun j hj => ?_⟩
      rcases Nat.lt_or_ge j (k + 1) with h | h
      · have h1 := ih.2 j (Nat.le_of_lt_succ h)
        exact htr2 _ _ _ (has _ _ hb) h1
      · obtain rfl : j = k + 1 := Nat.le_antisymm hj h
        exact hir _
    · rename_i hb
      refine ⟨Nat.le_succ_of_le ih.1, fun j hj => ?_⟩
      rcases Nat.lt_or_ge j (k + 1) with h | h
      · exact ih.2 j (Nat.le_of_lt_succ h)
      · obtain rfl : j = k + 1 := Nat.le_antisymm hj h
        exact Bool.eq_false_iff.mpr hb
noncomputable def ltT (x y : Str) : Bool := ltCps x.cps.toList y.cps.toList
theorem ltT_ir (x : Str) : ltT x x = false := by
  cases h : ltT x x with
  | false => rfl
  | true => have := lt_asymmT h; unfold ltT at h; rw [h] at this; cases this
theorem ltT_le {a b c : Str} (h : ltT a b = false) (k : ltT b c = false) : ltT a c = false := by
  cases e : ltT a c with
  | false => rfl
  | true => have := le_ltT (h := a) (y := b) (x := c) h e; unfold ltT at k; rw [this] at k; cases k
section
variable {prog : Program} {w : World} {A : Around} {E : Value → Shared → Prop} {s : Shared} {Q : Value → Shared → Prop} {h₀ : Heap} {L l : Addr} {m : Str → Option Value} {news : List (Addr × Obj)} {vs : List Value} {ws : List Str}
theorem max_T (hh : A.handled = none) (Fm : Fr h₀ L s.heap m) (N : News h₀ L s.heap news) (hls : s.heap.IsList l vs.toArray) (hf : TextsAre vs ws) (hne : ws ≠ [])
    (h : ∀ h' tk M t, M ∈ ws → (∀ a ∈ ws, ltT M a = false) → Fr h₀ L h' m → News h₀ L h' news → Q (.str M t) { s with heap := h', toks := tk }) : wpAny (model prog w) A (call (.builtin "max") [.ref l]) Q E s := by
  have hlen := texts_len hf
  have h0 : 0 < ws.length := List.length_pos_iff.mpr hne
  have hlt : l < s.heap.objs.size := by obtain ⟨_, e, _⟩ := hls; exact Heap.lt_size e
  refine call_max_walk (wpAny_pyIter_list hls ?_)
  have W := Walks.list (prog := prog) (w := w) (A := A.in1) hh s.heap.objs.size l (Nat.ne_of_lt hlt) vs.toArray
  have st : (s.heap.push { cls := .type "list_iterator", data := .fields #[.ref l, .int 0 0] }).IsListIter s.heap.objs.size l 0 ∧ (s.heap.push { cls := .type "list_iterator", data := .fields #[.ref l, .int 0 0] }).IsList l vs.toArray := ⟨⟨_, Heap.get?_push_size _ rfl, rfl, rfl⟩, hls.push _⟩
  have hfp : ∀ b ∈ [s.heap.objs.size, l], b < (s.heap.push { cls := .type "list_iterator", data := .fields #[.ref l, .int 0 0] }).objs.size := fun b hb => by
    rw [Heap.size_push]
    rcases List.mem_cons.mp hb with rfl | hb
    · exact Nat.lt_succ_self _
    · rw [List.mem_singleton.mp hb]; exact Nat.lt_succ_of_lt hlt
  refine ⟨_, _, _, _, _, _, fun i j => ltT (ws.getD j default) (ws.getD i default), rfl, W, st, hfp, by rw [List.size_toArray, hlen]; exact h0, fun i j vi vj s Q E hi hj h => ?_, fun v h' tk hP hk => ?_⟩
  · obtain ⟨b, t, e1, rfl⟩ := texts_at hf (by simpa using hi)
    obtain ⟨c, u, e2, rfl⟩ := texts_at hf (by simpa using hj)
    simp only [List.getD_eq_getElem?_getD, e1, e2, Option.getD_some] at h
    refine richCompare_gives (op := .Gt) (typeIs_str s b t) (typeIs_str s c u) F.slot_str_gt F.entry_str_gt (F.args_str_gt_2 _ _) (gives_str_gt b c t u) (fun e => nomatch e) ?_
    rw [ltT, ltCps_eq] at h
    exact h
  · obtain ⟨b, t, e1, rfl⟩ := texts_at hf (by simpa using hP)
    have q := argBest_most (fun i => ws.getD i default) ltT ltT_ir (fun a b c => ltT_le) (fun a b h => lt_asymmT h) (vs.toArray.size - 1)
    have kp : ∀ b o, s.heap.get? b = some o → h'.get? b = some o := fun b o e => hk b o (fun hm => absurd ((List.mem_singleton.mp hm) ▸ Heap.lt_size e) (Nat.lt_irrefl _)) (Heap.get?_push_of_some _ e)
    refine h h' tk b t (List.mem_of_getElem? e1) (fun a ha => ?_) (Fm.grownK kp) (N.grown kp)
    obtain ⟨j, hj⟩ := List.getElem?_of_mem ha
    have hjl := (List.getElem?_eq_some_iff.mp hj).1
    have := q.2 j (by rw [List.size_toArray, hlen]; omega)
    simp only [List.getD_eq_getElem?_getD, hj, Option.getD_some] at this
    rw [List.size_toArray] at this
    rw [e1] at this
    exact this
end
section
local macro_rules | `(tactic| walk_at "compareOp NotEq ref ref") => `(tactic| (refine stop_here ?_))
local macro_rules | `(tactic| walk_at "CompSrc") => `(tactic| (refine stop_here ?_))
noncomputable def outD (o : List Str × Bool) : Dat := .tuple [.list (o.1.map Dat.str), .bool o.2]
noncomputable def cutsD (r : List Str) : Dat := .list ((List.range ((tapeF r.length r).length + 1)).map fun p => outD (readF ((tapeF r.length r).take p)))
structure CutRow (r : List Str) : Prop where
  len : (tapeF r.length r).length ≤ 400
  due : ∀ p, p ≤ (tapeF r.length r).length → readF ((tapeF r.length r).take p) = dueF r p
  ok : ∀ p, ∀ y ∈ (readF ((tapeF r.length r).take p)).1, PyData.strOk y = true
theorem off1_mem {D : Addr} : ∀ {l : List (Addr × Obj)}, LCg.Off1 D l → ∀ p ∈ l, @Ne Nat p.1 D
  | [], _, _, h => nomatch h
  | _ :: _, x, p, h => by
    rcases List.mem_cons.mp h with rfl | h
    · exact x.1
    · exact off1_mem x.2 p h
theorem off_new {x T W : Addr} {tb tb' mid news : List (Addr × Obj)} {oT oW : Obj} (hx : ∃ o, (x, o) ∈ news) (h0 : ∀ q ∈ tb ++ mid, @Ne Nat q.1 x) (hlt : ∀ q ∈ news, @LT.lt Nat _ q.1 W ∧ @LT.lt Nat _ q.1 T) (hf : TabFrom tb tb' news) : ∀ q ∈ tb' ++ (T, oT) :: (W, oW) :: mid, @Ne Nat q.1 x := by
  obtain ⟨o, ho⟩ := hx
  intro q hq
  rcases List.mem_append.mp hq with hq | hq
  · rcases hf q hq with ⟨o', ho'⟩ | h
    · exact h0 (q.1, o') (List.mem_append_left _ ho')
    · exact (h _ ho).symm
  · rcases List.mem_cons.mp hq with rfl | hq
    · exact Nat.ne_of_gt (hlt _ ho).2
    · rcases List.mem_cons.mp hq with rfl | hq
      · exact Nat.ne_of_gt (hlt _ ho).1
      · exact h0 _ (List.mem_append_right _ hq)
theorem out_dat {T W : Addr} {n : Nat} {vs : List Value} {o : List Str × Bool} {nw : List (Addr × Obj)} (h1 : (T, tupOf #[.ref W, .bool o.2]) ∈ nw) (h2 : (W, listOf vs.toArray n) ∈ nw) (hv : TextsAre vs o.1) : DatIn nw (.ref T) (outD o) :=
  .tuple (vs := [.ref W, .bool o.2]) h1 (.cons (.list h2 (strs_dat (texts_strs hv))) (.cons (.bool _) .nil))
theorem cuts_ok {rs : List (List Str)} (h : ∀ r ∈ rs, CutRow r) : Told 9 (.list (rs.map cutsD)) := Told.list fun d hd => by
  obtain ⟨r, hr, rfl⟩ := List.mem_map.mp hd
  refine Told.list fun d hd => ?_
  obtain ⟨p, _, rfl⟩ := List.mem_map.mp hd
  refine Told.tuple fun d hd => ?_
  rcases List.mem_cons.mp hd with rfl | hd
  · exact Told.strs 5 fun y hy => (h r hr).ok p y hy
  · cases List.mem_singleton.mp hd
    exact Told.bool 6 _
inductive CutsJ (a b c : Addr × Obj) (mid : List (Addr × Obj)) (ds : List Dat) (xs : List Value) : List (Addr × Obj) → Prop
  | mk {tb1 mid1 : List (Addr × Obj)} (h1 : TabS tb1) (h2 : ∀ q ∈ mid1, @Ne Nat q.1 797) (h3 : ∀ q ∈ mid, q ∈ mid1) (h4 : DatAll mid1 xs ds) : CutsJ a b c mid ds xs (a :: b :: c :: (tb1 ++ mid1))
inductive CutsK (a b c d e f g : Addr × Obj) (mid : List (Addr × Obj)) (I D C c' : Addr) (ds : List Dat) (zs : List Value) : List (Addr × Obj) → Prop
  | mk {tb2 mid2 : List (Addr × Obj)} (h1 : TabS tb2) (h2 : ∀ q ∈ mid2, @Ne Nat q.1 797) (h3 : ∀ q ∈ mid, q ∈ mid2) (h4 : OffB I D [C, c'] (tb2 ++ mid2)) (h5 : DatAll mid2 zs ds) : CutsK a b c d e f g mid I D C c' ds zs (a :: b :: c :: d :: e :: f :: g :: (tb2 ++ mid2))
inductive MoreJ (base : List (Addr × Obj)) (ds : List Dat) (us : List Value) : List (Addr × Obj) → Prop
  | mk {more : List (Addr × Obj)} (h : DatAll (more ++ base) us ds) : MoreJ base ds us (more ++ base)
inductive MoreK (a b c d : Addr × Obj) (old base : List (Addr × Obj)) (I D C c' : Addr) (ds : List Dat) (zs : List Value) : List (Addr × Obj) → Prop
  | mk {more2 : List (Addr × Obj)} (h1 : ∀ q ∈ old, q ∈ more2 ++ base) (h2 : OffB I D [C, c'] (more2 ++ base)) (h3 : DatAll (more2 ++ base) zs ds) : MoreK a b c d old base I D C c' ds zs (a :: b :: c :: d :: (more2 ++ base))
theorem s_cuts : Wants PySem.Challenge.rw_in0077_01 Mine.K → ∀ (prog : Program) (w : World) (p : Program) (loose : List Str) (mean : ExcName → Option Value) (mg mb : Str → Option Value) (dp un : Nat) (gd : Option (List Code)) (a : Addr) (ccd : Value) (A₀ : Around) (base h₀ : Heap) (L : Addr) (m : Str → Option Value) (s : Shared) (Q : Flow → Shared → Prop) (E : Value → Shared → Prop)
    (R Tp : Addr) (oc : Obj) (rv ts : List Value) (rs : List (List Str)) (tb mid : List (Addr × Obj)),
    Below A₀ base [] h₀ → Fr h₀ L s.heap (fun z => if z = Str.ofString "tapes" then some (.ref Tp) else m z) → (Mine.K w.params).In h₀ → News h₀ L s.heap ((L + 1, oc) :: (R, listOf rv.toArray 0) :: (Tp, LCg.lst ts) :: (tb ++ mid)) → Top p loose mean mg mb h₀ → AtBase (Mine.K w.params) p loose mean mg mb base → oc.data = .cell (some (.ref R)) →
    (L + 1, oc) ∈ mid → (R, listOf rv.toArray 0) ∈ mid → (Tp, LCg.lst ts) ∈ mid → TabS tb → (∀ q ∈ mid, @Ne Nat q.1 797) → RowsAre rv mid rs → TapesAre ts rs → rs.length ≤ 10 → (∀ r ∈ rs, TapeRow r) → (∀ r ∈ rs, CutRow r) → AllBare s.gens → dp + 60 < recursionLimit → un + 800 < cLine →
    (∀ s' tb' mid', TabS tb' → (∀ q ∈ mid', @Ne Nat q.1 797) → (∀ q ∈ mid, q ∈ mid') → Fr h₀ L s'.heap (fun z => if z = Str.ofString "tapes" then some (.ref Tp) else m z) → News h₀ L s'.heap ((L + 1, oc) :: (R, listOf rv.toArray 0) :: (Tp, LCg.lst ts) :: (tb' ++ mid')) → AllBare s'.gens → s'.os = s.os → Q .next s') →
    wpAny (model prog w) (lawA dp un gd L a ccd (fnS [40])) (exec (stAt (fnB [40]) 5) (lawX L a ccd (fnS [40]))) Q E s := by
  k_fill
  intro _ prog w p loose mean mg mb dp un gd a ccd A₀ base h₀ L m s Q E R Tp oc rv ts rs tb mid B F X N T XB hoc hc0 hR0 hT0 hTab h797 hr hts hrl hrs hcs hg hd hu hQ
  refine' lit_st (A := fun sc => lawA dp un gd L a ccd sc) (env := fun sc => lawX L a ccd sc) ?q1 ?q2 ?_
  case q1 => walk_at "WHNF"
  case q2 => walk_at "WHNF"
  obtain ⟨XB1, XB2⟩ := XB
  k_steps
  show wpAny _ _ _ _ _ _
  rename Fr _ _ _ _ => F5
  refine comp_own true F5 rfl (by with_unfolding_all rfl) (by rfl) (by decide) ⟨fun a => by rfl, fun h => by rfl, by rfl⟩ ?_
  k_steps
  show SrcG _ _ _ _ _ _ _ _ _ _ _ _ _ _ _ _
  rename Fr _ _ _ _ => F5
  rename News _ _ _ _ => N5
  refine ⟨Tp, ts, ts.length, _, fun i xs nw => CutsJ (L + 1, oc) (R, listOf rv.toArray 0) (Tp, LCg.lst ts) mid ((rs.take i).map cutsD) xs nw, rfl, F5, N5, ?_, hg, .mk hTab h797 (fun _ h => h) .nil, ?_, ?_, ?_⟩
  case refine_1 => rw [sizeLine_eq, hts.1]; omega
  case refine_2 => intro i xs nw hJ; induction hJ; exact .tail _ (.tail _ (.head _))
  case refine_3 =>
    clear F5 N5
    refine turnsG_some ?_
    intro i v xs nw I oI D C c oC oc2 m₂ s₂ E' hv hcl hJ
    induction hJ
    rename_i tb1 mid1 hTab1 h797' hsub hxs
    intro hC hoc2 F N off nd hg' ho'
    dsimp only [mkEnv]
    obtain ⟨b, t, r, rfl, hri, hb⟩ := hts.2 i v hv
    have hrm : r ∈ rs := List.mem_of_getElem? hri
    have hstep : rs.take (i + 1) = rs.take i ++ [r] := by rw [List.take_succ, hri]; rfl
    obtain ⟨ks, hks⟩ : ∃ ks, ks = tapeF r.length r := ⟨_, rfl⟩
    rw [← hks] at hb
    have hkl : ks.length ≤ 400 := hks ▸ (hcs r hrm).len
    k_steps
    show wpAny _ _ _ _ _ _
    rename Fr _ _ _ _ => F7
    refine LCg.ListComp_U (F₀ := F7) (by with_unfolding_all rfl) (by decide) (by rfl) (by decide) (by rfl) ?_
    k_steps
    show LCg.CompSrc _ _ _ _ _ _ _ _ _ _ _ _ _ _
    rename Fr _ _ _ _ => F8
    rename News _ _ _ _ => N8
    rename IsRange _ _ _ _ _ _ _ _ => rg8
    have hn1 : Builtin.Range.rangeSize 0 ((ks.length : Int) + 1) 1 = ((ks.length + 1 : Nat) : Int) := by rw [rangeSize_nat]; omega
    have hs1 : Builtin.Range.small 0 ((ks.length : Int) + 1) 1 = true := small_one (by omega) (by omega) (by omega) (by omega)
    refine LCg.CompSrc.range (by rfl) F8 N8 rg8 hs1 hn1 (by rw [sizeLine_eq]; omega) fun g => rest_inv (fun j zs nw2 => CutsK (I, oI) (C, oC) (c, oc2) (D, LCg.lst xs) (L + 1, oc) (R, listOf rv.toArray 0) (Tp, LCg.lst ts) mid1 I D C c ((List.range j).map fun p => outD (readF (ks.take p))) zs nw2) ?_ ?_ ?_
    case refine_3 => exact .mk hTab1 h797' (fun _ h => h) (fun q hq => off q (.tail _ (.tail _ (.tail _ hq)))) .nil
    case refine_1 =>
      clear F8 N8 hn1 hs1 rg8
      intro j v I2 oI2 C2 oC2 D2 m3 zs nw2 h2 tk2 E2 hj hv0 hJ
      obtain ⟨tv, hv2⟩ := hv0
      induction hJ
      rename_i tb2 mid2 hTab2 h7972 hsub2 off2 hzs
      intro hC2 hx2 F N offs ne2
      rw [Int.zero_add] at hv2
      subst hv2
      dsimp only
      k_steps
      show wpAny _ _ (call (.ref 809) [.bytes _ _]) _ _ _
      rename Fr _ _ _ _ => F9
      rename News _ _ _ _ => N9
      rename KBw.bInts _ = List.take _ ks => hb9
      rw [take_min9] at hb9
      obtain ⟨o797, ho797⟩ := hTab2.has
      have z1 := LCg.Off3.mem offs _ (.tail _ (.tail _ (.tail _ (.tail _ (.tail _ (.tail _ (.tail _ (List.mem_append_left _ ho797))))))))
      have z2 := off2 _ (List.mem_append_left _ ho797)
      have hsubm : ∀ q ∈ mid, q ∈ mid2 := fun q hq => hsub2 q (hsub q hq)
      refine c_lawread trivial prog w p loose mean mg mb tb2 ((I2, oI2) :: (C2, oC2) :: (D2, LCg.lst zs) :: (I, oI) :: (C, oC) :: (c, oc2) :: (D, LCg.lst xs) :: (L + 1, oc) :: (R, listOf rv.toArray 0) :: (Tp, LCg.lst ts) :: mid2) _ _ (ks.take j) hb9 (Nat.le_trans (List.length_take_le _ _) (by omega)) hTab2 ?_ _ _ _ _ _ _ _ _ _ _ _ _ _ _ _ _ B F9 X (news_sub N9 ?_) T ⟨XB1, XB2⟩ rfl (by omega) (by omega) fun v news' h' tk' hO => ?_
      · exact fc z1.1.symm (fc z1.2.1.symm (fc z1.2.2.symm (fc z2.1.symm (fc (z2.2.2 _ (.head _)).symm (fc (z2.2.2 _ (.tail _ (.head _))).symm (fc z2.2.1.symm (fc (h797 _ hc0) (fc (h797 _ hR0) (fc (h797 _ hT0) h7972)))))))))
      · walk_at "SUBM"
      · refine hO.open ?_
        clear hO
        intro T3 W3 n3 vs3 tb3 hvs3 hTab3 hT3 hW3 hlt3 hf3 F10 N10
        refine LCg.CompEnd.intro F10 N10 ((I, oI) :: (C, oC) :: (c, oc2) :: (D, LCg.lst xs) :: (L + 1, oc) :: (R, listOf rv.toArray 0) :: (Tp, LCg.lst ts) :: (tb3 ++ (T3, tupOf #[.ref W3, .bool (readF (ks.take j)).2]) :: (W3, listOf vs3.toArray n3) :: mid2)) ?_ (LCg.Off3.of ?_) trivial (.mk hTab3 (fc hT3 (fc hW3 h7972)) (fun q hq => .tail _ (.tail _ (hsub2 q hq))) ?_ ?_)
        · walk_at "SUBM"
        · have hoff := LCg.Off3.mem offs
          have h0 : ∀ q ∈ tb2 ++ mid2, q.1 ≠ I2 ∧ q.1 ≠ C2 ∧ q.1 ≠ D2 := fun q hq => hoff q (.tail _ (.tail _ (.tail _ (.tail _ (.tail _ (.tail _ (.tail _ hq)))))))
          exact fc (hoff _ (.head _)) (fc (hoff _ (.tail _ (.head _))) (fc (hoff _ (.tail _ (.tail _ (.head _)))) (fc (hoff _ (.tail _ (.tail _ (.tail _ (.head _))))) (fc (hoff _ (.tail _ (.tail _ (.tail _ (.tail _ (.head _)))))) (fc (hoff _ (.tail _ (.tail _ (.tail _ (.tail _ (.tail _ (.head _))))))) (fc (hoff _ (.tail _ (.tail _ (.tail _ (.tail _ (.tail _ (.tail _ (.head _)))))))) fun q hq =>
            ⟨off_new ⟨_, .head _⟩ (fun q hq => (h0 q hq).1) hlt3 hf3 q hq, off_new ⟨_, .tail _ (.head _)⟩ (fun q hq => (h0 q hq).2.1) hlt3 hf3 q hq, off_new ⟨_, .tail _ (.tail _ (.head _))⟩ (fun q hq => (h0 q hq).2.2) hlt3 hf3 q hq⟩))))))
        · exact fun q hq => ⟨off_new ⟨oI, .tail _ (.tail _ (.tail _ (.head _)))⟩ (fun q hq => (off2 q hq).1) hlt3 hf3 q hq, off_new ⟨LCg.lst xs, .tail _ (.tail _ (.tail _ (.tail _ (.tail _ (.tail _ (.head _))))))⟩ (fun q hq => (off2 q hq).2.1) hlt3 hf3 q hq,
            fc (off_new ⟨oC, .tail _ (.tail _ (.tail _ (.tail _ (.head _))))⟩ (fun q hq => (off2 q hq).2.2 _ (.head _)) hlt3 hf3 q hq) (fc (off_new ⟨oc2, .tail _ (.tail _ (.tail _ (.tail _ (.tail _ (.head _)))))⟩ (fun q hq => (off2 q hq).2.2 _ (.tail _ (.head _))) hlt3 hf3 q hq) f0)⟩
        · rw [List.range_succ, List.map_append]
          exact (hzs.mono fun q hq => .tail _ (.tail _ hq)).append (.one (out_dat (.head _) (.tail _ (.head _)) hvs3))
    case refine_2 =>
      clear F8 N8 hn1 hs1 rg8
      intro zs nw2 hJ
      induction hJ
      rename_i tb2 mid2 hTab2 h7972 hsub2 off2 hzs
      intro D2 h2 tk2 F N o2
      k_steps
      show EndG _ _ _ _ _ _ _ _ _ _ _
      have hsubm : ∀ q ∈ mid, q ∈ mid2 := fun q hq => hsub2 q (hsub q hq)
      obtain ⟨o797, ho797⟩ := hTab2.has
      have o3 := off1_mem o2
      refine ⟨(L + 1, oc) :: (R, listOf rv.toArray 0) :: (Tp, LCg.lst ts) :: (tb2 ++ (D2, LCg.lst zs) :: mid2), F, news_sub N ?_, ?_, .mk (tb1 := tb2) (mid1 := (D2, LCg.lst zs) :: mid2) hTab2 (fc (o3 (797, o797) (.tail _ (.tail _ (.tail _ (.tail _ (.tail _ (.tail _ (.tail _ (List.mem_append_left _ ho797))))))))).symm h7972) (fun q hq => .tail _ (hsubm q hq)) ?_, hg', ho'⟩
      · walk_at "SUBM"
      · exact fc (off2 _ (List.mem_append_right _ (hsubm _ hc0))) (fc (off2 _ (List.mem_append_right _ (hsubm _ hR0))) (fc (off2 _ (List.mem_append_right _ (hsubm _ hT0))) (fa (fun q hq => off2 _ (List.mem_append_left _ hq))
          (fc ⟨(o3 _ (.head _)).symm, (o3 _ (.tail _ (.tail _ (.tail _ (.head _))))).symm, fc (o3 _ (.tail _ (.head _))).symm (fc (o3 _ (.tail _ (.tail _ (.head _)))).symm f0)⟩ fun q hq => off2 _ (List.mem_append_right _ hq)))))
      · rw [hstep, List.map_append]
        refine (hxs.mono fun q hq => .tail _ (hsub2 q hq)).append (.one ?_)
        show DatIn _ _ (cutsD r)
        rw [cutsD, ← hks]
        exact .list (.head _) (hzs.mono fun q hq => .tail _ hq)
  case refine_4 =>
    clear F5 N5
    intro xs nw D s₂ hJ
    induction hJ
    rename_i tb1 mid1 hTab1 h7971 hsub1 hxs
    intro F N hD hg' ho'
    dsimp only [mWith, vWith] at F ⊢
    replace N : News h₀ L s₂.heap ((L + 1, oc) :: (R, listOf rv.toArray 0) :: (Tp, LCg.lst ts) :: (D, LCg.lst xs) :: (tb1 ++ mid1)) := news_sub N (by walk_at "SUBM")
    k_steps
    show wpAny _ _ _ _ _ _
    rename Fr _ _ _ _ => F5
    refine comp_own true F5 rfl (by with_unfolding_all rfl) (by rfl) (by decide) ⟨fun a => by rfl, fun h => by rfl, by rfl⟩ ?_
    k_steps
    show SrcG _ _ _ _ _ _ _ _ _ _ _ _ _ _ _ _
    rename Fr _ _ _ _ => F5
    rename News _ _ _ _ => N5
    refine ⟨R, rv, 0, _, fun i us nw => MoreJ ((L + 1, oc) :: (R, listOf rv.toArray 0) :: (Tp, LCg.lst ts) :: (D, LCg.lst xs) :: (tb1 ++ mid1)) ((rs.take i).map cutsD) us nw, rfl, F5, N5, ?_, hg', .mk (more := []) .nil, ?_, ?_, ?_⟩
    case refine_1 => rw [sizeLine_eq, hr.1]; omega
    case refine_2 => intro i us nw hJ; induction hJ; exact List.mem_append_right _ (.tail _ (.head _))
    case refine_3 =>
      clear F5 N5
      refine turnsG_some ?_
      intro i v us nw I oI D1 C c oC oc2 m₂ s₃ E' hv hcl hJ
      induction hJ
      rename_i more hus
      intro hC hoc2 F N off nd hg2 ho2
      dsimp only [mkEnv]
      obtain ⟨S, vs, n, r, rfl, hS, hrm, hstep, _, hvs⟩ := hr.at hv
      have hRow := hrs r hrm
      have hCut := hcs r hrm
      obtain ⟨ks, hks⟩ : ∃ ks, ks = tapeF r.length r := ⟨_, rfl⟩
      have hkl : ks.length ≤ 400 := hks ▸ hCut.len
      have hS5 : (S, listOf vs.toArray n) ∈ more ++ ((L + 1, oc) :: (R, listOf rv.toArray 0) :: (Tp, LCg.lst ts) :: (D, LCg.lst xs) :: (tb1 ++ mid1)) := List.mem_append_right _ (.tail _ (.tail _ (.tail _ (.tail _ (List.mem_append_right _ (hsub1 _ hS))))))
      generalize hb5 : ((L + 1, oc) :: (R, listOf rv.toArray 0) :: (Tp, LCg.lst ts) :: (D, LCg.lst xs) :: (tb1 ++ mid1)) = base5 at *
      k_steps
      show wpAny _ _ _ _ _ _
      rename Fr _ _ _ _ => F7
      refine LCg.ListComp_U (F₀ := F7) (by with_unfolding_all rfl) (by decide) (by rfl) (by decide) (by rfl) ?_
      k_steps
      show wpAny _ _ (call (.ref 795) [.ref S]) _ _ _
      rename Fr _ _ _ _ => F8
      rename News _ _ _ _ => N8
      refine c_tape trivial _ _ _ _ _ _ _ ((I, oI) :: (C, oC) :: (c, oc2) :: (D1, LCg.lst us) :: (more ++ base5)) S vs r n hvs hRow.len hRow.short _ _ _ _ _ _ _ _ _ _ _ _ _ _ _ _ _ B F8 X (fun q hq => ?_) T rfl (by omega) (by omega) fun v news' h' tk' hO F9 N9 => ?_
      · rcases List.mem_cons.mp hq with rfl | hq
        · exact N8 _ (.tail _ (.tail _ (.tail _ (.tail _ hS5))))
        · exact N8 q hq
      obtain ⟨rfl, b, t, rfl, hb⟩ := hO
      rw [← hks] at hb
      replace N9 := news_tl N9
      clear N8 F8
      k_steps
      show LCg.CompSrc _ _ _ _ _ _ _ _ _ _ _ _ _ _
      rename Fr _ _ _ _ => F8
      rename News _ _ _ _ => N8
      rename IsRange _ _ _ _ _ _ _ _ => rg8
      have hn1 : Builtin.Range.rangeSize 0 ((ks.length : Int) + 1) 1 = ((ks.length + 1 : Nat) : Int) := by rw [rangeSize_nat]; omega
      have hs1 : Builtin.Range.small 0 ((ks.length : Int) + 1) 1 = true := small_one (by omega) (by omega) (by omega) (by omega)
      refine LCg.CompSrc.range (by rfl) F8 N8 rg8 hs1 hn1 (by rw [sizeLine_eq]; omega) fun g => rest_inv (fun j zs nw2 => MoreK (I, oI) (C, oC) (c, oc2) (D1, LCg.lst us) (more ++ base5) base5 I D1 C c ((List.range j).map fun p => outD (dueF r p)) zs nw2) ?_ ?_ ?_
      case refine_3 => exact .mk (fun _ h => h) off .nil
      case refine_1 =>
        clear F8 N8 hn1 hs1 rg8
        intro j v I2 oI2 C2 oC2 D2 m3 zs nw2 h2 tk2 E2 hj hv0 hJ
        obtain ⟨tv, hv2⟩ := hv0
        induction hJ
        rename_i more2 hsub2 off2 hzs
        intro hC2 hx2 F N offs ne2
        rw [Int.zero_add] at hv2
        subst hv2
        dsimp only
        k_steps
        show wpAny _ _ (call (.ref 814) [.ref S, .int _ _]) _ _ _
        rename Fr _ _ _ _ => F9
        rename News _ _ _ _ => N9
        refine c_due trivial prog w p loose mean mg mb ((I2, oI2) :: (C2, oC2) :: (D2, LCg.lst zs) :: (I, oI) :: (C, oC) :: (c, oc2) :: (D1, LCg.lst us) :: (more2 ++ base5)) S vs r n j _ hvs hRow.len (fun y hy => (hRow.short y hy).1) (by omega) _ _ _ _ _ _ _ _ _ _ _ _ _ _ _ _ _ B F9 X (fun q hq => ?_) T rfl (by omega) (by omega) fun v news' h' tk' hO F10 N10 => ?_
        · rcases List.mem_cons.mp hq with rfl | hq
          · exact N9 _ (.tail _ (.tail _ (.tail _ (.tail _ (.tail _ (.tail _ (.tail _ (hsub2 _ hS5))))))))
          · exact N9 q hq
        obtain ⟨T3, W3, vs3, n3, rfl, rfl, hvs3, hlt3⟩ := hO
        replace hlt3 := fun q hq => hlt3 q (.tail _ hq)
        have hf3 : ∀ news, TabFrom [] [] news := fun _ _ h => nomatch h
        refine LCg.CompEnd.intro F10 N10 ((I, oI) :: (C, oC) :: (c, oc2) :: (D1, LCg.lst us) :: (((T3, tupD #[.ref W3, .bool (dueF r j).2]) :: (W3, listOf vs3.toArray n3) :: more2) ++ base5)) ?_ (LCg.Off3.of ?_) trivial (.mk (more2 := (T3, tupD #[.ref W3, .bool (dueF r j).2]) :: (W3, listOf vs3.toArray n3) :: more2) (fun q hq => .tail _ (.tail _ (hsub2 q hq))) ?_ ?_)
        · walk_at "SUBM"
        · have hoff := LCg.Off3.mem offs
          have h0 : ∀ q ∈ [] ++ (more2 ++ base5), q.1 ≠ I2 ∧ q.1 ≠ C2 ∧ q.1 ≠ D2 := fun q hq => hoff q (.tail _ (.tail _ (.tail _ (.tail _ hq))))
          exact fc (hoff _ (.head _)) (fc (hoff _ (.tail _ (.head _))) (fc (hoff _ (.tail _ (.tail _ (.head _)))) (fc (hoff _ (.tail _ (.tail _ (.tail _ (.head _))))) fun q hq =>
            ⟨off_new ⟨_, .head _⟩ (fun q hq => (h0 q hq).1) hlt3 (hf3 _) q hq, off_new ⟨_, .tail _ (.head _)⟩ (fun q hq => (h0 q hq).2.1) hlt3 (hf3 _) q hq, off_new ⟨_, .tail _ (.tail _ (.head _))⟩ (fun q hq => (h0 q hq).2.2) hlt3 (hf3 _) q hq⟩)))
        · have h0 : ∀ q ∈ [] ++ (more2 ++ base5), q.1 ≠ I ∧ q.1 ≠ D1 ∧ ∀ a ∈ [C, c], q.1 ≠ a := off2
          exact fun q hq => ⟨off_new ⟨oI, .tail _ (.tail _ (.tail _ (.head _)))⟩ (fun q hq => (h0 q hq).1) hlt3 (hf3 _) q hq, off_new ⟨LCg.lst us, .tail _ (.tail _ (.tail _ (.tail _ (.tail _ (.tail _ (.head _))))))⟩ (fun q hq => (h0 q hq).2.1) hlt3 (hf3 _) q hq,
            fc (off_new ⟨oC, .tail _ (.tail _ (.tail _ (.tail _ (.head _))))⟩ (fun q hq => (h0 q hq).2.2 _ (.head _)) hlt3 (hf3 _) q hq) (fc (off_new ⟨oc2, .tail _ (.tail _ (.tail _ (.tail _ (.tail _ (.head _)))))⟩ (fun q hq => (h0 q hq).2.2 _ (.tail _ (.head _))) hlt3 (hf3 _) q hq) f0)⟩
        · rw [List.range_succ, List.map_append]
          exact (hzs.mono fun q hq => .tail _ (.tail _ hq)).append (.one (out_dat (.head _) (.tail _ (.head _)) hvs3))
      case refine_2 =>
        clear F8 N8 hn1 hs1 rg8
        intro zs nw2 hJ
        induction hJ
        rename_i more2 hsub2 off2 hzs
        intro D2 h2 tk2 F N o2
        k_steps
        show EndG _ _ _ _ _ _ _ _ _ _ _
        have o3 := off1_mem o2
        refine ⟨((D2, LCg.lst zs) :: more2) ++ base5, F, news_sub N ?_, ?_, .mk (more := (D2, LCg.lst zs) :: more2) ?_, hg2, ho2⟩
        · walk_at "SUBM"
        · exact fc ⟨(o3 _ (.head _)).symm, (o3 _ (.tail _ (.tail _ (.tail _ (.head _))))).symm, fc (o3 _ (.tail _ (.head _))).symm (fc (o3 _ (.tail _ (.tail _ (.head _)))).symm f0)⟩ off2
        · rw [hstep, List.map_append]
          refine (hus.mono fun q hq => .tail _ (hsub2 q hq)).append (.one ?_)
          show DatIn _ _ (cutsD r)
          have e : (List.range ((tapeF r.length r).length + 1)).map (fun p => outD (readF ((tapeF r.length r).take p))) = (List.range (ks.length + 1)).map fun p => outD (dueF r p) := by
            rw [hks]
            exact List.map_congr_left fun p hp => congrArg outD (hCut.due p (Nat.le_of_lt_succ (List.mem_range.mp hp)))
          rw [cutsD, e]
          exact .list (.head _) (hzs.mono fun q hq => .tail _ hq)
    case refine_4 =>
      clear F5 N5
      intro us nw D2 s₃ hJ
      induction hJ
      rename_i more hus
      intro F N hD2 hg2 ho2
      dsimp only [mWith, vWith] at F ⊢
      rw [hr.1, List.take_length] at hus
      rw [hts.1, List.take_length] at hxs
      refine cmp_ne_same (d := .list (rs.map cutsD)) N (.list (.tail _ (List.mem_append_right _ (.tail _ (.tail _ (.tail _ (.head _)))))) (hxs.mono fun q hq => .tail _ (List.mem_append_right _ (.tail _ (.tail _ (.tail _ (.tail _ (List.mem_append_right _ hq)))))))) (fun _ h => h) (.list (.head _) (hus.mono fun q hq => .tail _ hq)) (fun _ h => h) (cuts_ok hcs) (by show un + 64 < cLine; omega) ?_
      k_steps
      refine hQ s₃ tb1 mid1 hTab1 h7971 hsub1 F (news_sub N fun q hq => .tail _ (List.mem_append_right _ ?_)) hg2 (ho2.trans ho')
      revert q hq; walk_at "SUBM"
end
section
local macro_rules | `(tactic| walk_at "call builtin:sorted") => `(tactic| (refine stop_here ?_))
inductive PairJ (a b c : Addr × Obj) (mid : List (Addr × Obj)) (rr : List (List Str)) (ps : List Value) : List (Addr × Obj) → Prop
  | mk {tb1 mid1 : List (Addr × Obj)} (h1 : TabS tb1) (h2 : ∀ q ∈ mid1, @Ne Nat q.1 797) (h3 : ∀ q ∈ mid, q ∈ mid1) (h4 : RowsAre ps mid1 rr) : PairJ a b c mid rr ps (a :: b :: c :: (tb1 ++ mid1))
theorem s_pair : Wants PySem.Challenge.rw_in0077_01 Mine.K → ∀ (prog : Program) (w : World) (p : Program) (loose : List Str) (mean : ExcName → Option Value) (mg mb : Str → Option Value) (dp un : Nat) (gd : Option (List Code)) (a : Addr) (ccd : Value) (A₀ : Around) (base h₀ : Heap) (L : Addr) (m : Str → Option Value) (s : Shared) (Q : Flow → Shared → Prop) (E : Value → Shared → Prop)
    (R Tp : Addr) (oc : Obj) (rv ts : List Value) (rs : List (List Str)) (tb mid : List (Addr × Obj)),
    Below A₀ base [] h₀ → Fr h₀ L s.heap (fun z => if z = Str.ofString "tapes" then some (.ref Tp) else m z) → (Mine.K w.params).In h₀ → News h₀ L s.heap ((L + 1, oc) :: (R, listOf rv.toArray 0) :: (Tp, LCg.lst ts) :: (tb ++ mid)) → Top p loose mean mg mb h₀ → AtBase (Mine.K w.params) p loose mean mg mb base →
    (L + 1, oc) ∈ mid → (R, listOf rv.toArray 0) ∈ mid → (Tp, LCg.lst ts) ∈ mid → TabS tb → (∀ q ∈ mid, @Ne Nat q.1 797) → TapesAre ts rs → rs.length ≤ 10 → (∀ r ∈ rs, TapeRow r) → (∀ r ∈ rs, CutRow r) → (∀ r ∈ rs, readF (tapeF r.length r) = (r, false)) → AllBare s.gens → dp + 60 < recursionLimit → un + 800 < cLine →
    (∀ s' D ps tb' mid', TabS tb' → (∀ q ∈ mid', @Ne Nat q.1 797) → (∀ q ∈ mid, q ∈ mid') → RowsAre ps mid' (rs.map fun r => sortT (r ++ r)) → Fr h₀ L s'.heap (fun z => if z = Str.ofString "pair" then some (.ref D) else if z = Str.ofString "tapes" then some (.ref Tp) else m z) → News h₀ L s'.heap ((D, LCg.lst ps) :: (L + 1, oc) :: (R, listOf rv.toArray 0) ::  (Tp, LCg.lst ts) :: (tb' ++ mid')) → AllBare s'.gens → s'.os = s.os → Q .next s') →
    wpAny (model prog w) (lawA dp un gd L a ccd (fnS [40])) (exec (stAt (fnB [40]) 6) (lawX L a ccd (fnS [40]))) Q E s := by
  k_fill
  intro _ prog w p loose mean mg mb dp un gd a ccd A₀ base h₀ L m s Q E R Tp oc rv ts rs tb mid B F X N T XB hc0 hR0 hT0 hTab h797 hts hrl hrs hcs hrd hg hd hu hQ
  refine' lit_st (A := fun sc => lawA dp un gd L a ccd sc) (env := fun sc => lawX L a ccd sc) ?q1 ?q2 ?_
  case q1 => walk_at "WHNF"
  case q2 => walk_at "WHNF"
  refine comp_asg false F (by rfl) rfl (by with_unfolding_all rfl) (by with_unfolding_all rfl) (by rfl) (by decide) ⟨by decide, by rfl⟩ (by rfl) (by rfl) ?_
  k_steps
  show SrcG _ _ _ _ _ _ _ _ _ _ _ _ _ _ _ _
  rename Fr _ _ _ _ => F5
  rename News _ _ _ _ => N5
  refine ⟨Tp, ts, ts.length, _, fun i ps nw => PairJ (L + 1, oc) (R, listOf rv.toArray 0) (Tp, LCg.lst ts) mid ((rs.take i).map fun r => sortT (r ++ r)) ps nw, rfl, F5, N5, ?_, hg, .mk hTab h797 (fun _ h => h) ⟨rfl, fun i v hv => by simp at hv⟩, ?_, ?_, ?_⟩
  case refine_1 => rw [sizeLine_eq, hts.1]; omega
  case refine_2 => intro i xs nw hJ; induction hJ; exact .tail _ (.tail _ (.head _))
  case refine_3 =>
    clear F5 N5
    refine turnsG_none ?_
    intro i v ps nw I oI D C oC m₂ s₂ E' hv hcl hJ
    induction hJ
    rename_i tb1 mid1 hTab1 h7971 hsub1 hps
    intro hC hx2 F N off nd hg' ho'
    dsimp only [mkEnv]
    obtain ⟨b, t, r, rfl, hri, hb⟩ := hts.2 i v hv
    have hrm : r ∈ rs := List.mem_of_getElem? hri
    have hstep : rs.take (i + 1) = rs.take i ++ [r] := by rw [List.take_succ, hri]; rfl
    obtain ⟨ks, hks⟩ : ∃ ks, ks = tapeF r.length r := ⟨_, rfl⟩
    rw [← hks] at hb
    have hkl : ks.length ≤ 400 := hks ▸ (hcs r hrm).len
    k_steps
    show wpAny _ _ (call (.ref 809) [.bytes _ _]) _ _ _
    rename Fr _ _ _ _ => F9
    rename News _ _ _ _ => N9
    obtain ⟨o797, ho797⟩ := hTab1.has
    have z1 := off (797, o797) (.tail _ (.tail _ (.tail _ (List.mem_append_left _ ho797))))
    refine c_lawread trivial prog w p loose mean mg mb tb1 ((I, oI) :: (C, oC) :: (D, LCg.lst ps) :: (L + 1, oc) :: (R, listOf rv.toArray 0) :: (Tp, LCg.lst ts) :: mid1) _ _ ks hb hkl hTab1 ?_ _ _ _ _ _ _ _ _ _ _ _ _ _ _ _ _ B F9 X (news_sub N9 ?_) T XB rfl (by omega) (by omega) fun v news' h' tk' hO => ?_
    · exact fc z1.1.symm (fc (z1.2.2 _ (.head _)).symm (fc z1.2.1.symm (fc (h797 _ hc0) (fc (h797 _ hR0) (fc (h797 _ hT0) h7971)))))
    · walk_at "SUBM"
    · refine hO.open ?_
      clear hO
      intro T3 W3 n3 vs3 tb3 hvs3 hTab3 hT3 hW3 hlt3 hf3 F10 N10
      have hrd3 : readF ks = (r, false) := hks ▸ hrd r hrm
      rw [hrd3] at hvs3 N10
      dsimp only at hvs3
      have hrow := hrs r hrm
      have hl3 := hvs3.len
      have hl4 : vs3.length ≤ 20 := hl3 ▸ hrow.len
      replace N10 : News h₀ L h' ((I, oI) :: (C, oC) :: (D, LCg.lst ps) :: (T3, tupOf #[.ref W3, .bool false]) :: (W3, listOf vs3.toArray n3) :: (L + 1, oc) :: (R, listOf rv.toArray 0) :: (Tp, LCg.lst ts) :: (tb3 ++ mid1)) := news_sub N10 (by walk_at "SUBM")
      k_steps
      show wpAny _ _ (binaryOp .Mult (.ref W3) (.int 2 _)) _ _ _
      refine KMa.mul (ws := vs3 ++ vs3) F10 N10 (News.isList N10 (.tail _ (.tail _ (.tail _ (.tail _ (.head _)))))) (by decide) (by decide) (by show vs3.length * 2 ≤ 256; omega) (by simp [List.replicate]) fun Dm hm Fm Nm hltm => ?_
      clear F9 N9
      k_steps
      show wpAny _ _ (call (.builtin "sorted") [.ref Dm]) _ _ _
      rename Fr h₀ _ _ _ => Fs
      rename News h₀ _ _ _ => Ns
      refine sorted_T Fs Ns (News.isList Ns (.head _)) (texts_app hvs3 hvs3) (by rw [List.length_append]; omega) fun P h4 vs4 e4 F4 N4 hlt4 hS4 => ?_
      have hlts : ∀ q ∈ (I, oI) :: (C, oC) :: (D, LCg.lst ps) :: (T3, tupOf #[.ref W3, .bool false]) :: (W3, listOf vs3.toArray n3) :: (L + 1, oc) :: (R, listOf rv.toArray 0) :: (Tp, LCg.lst ts) :: (tb3 ++ mid1), @LT.lt Nat _ q.1 P := fun q hq => hlt4 q (.tail _ hq)
      refine ⟨(L + 1, oc) :: (R, listOf rv.toArray 0) :: (Tp, LCg.lst ts) :: (tb3 ++ (P, listOf vs4.toArray e4) :: (T3, tupOf #[.ref W3, .bool false]) :: (W3, listOf vs3.toArray n3) :: mid1), F4, news_sub N4 ?_, ?_, .mk hTab3 ?_ (fun q hq => .tail _ (.tail _ (.tail _ (hsub1 q hq)))) ?_, hg', ho'⟩
      · walk_at "SUBM"
      · have h0 : ∀ q ∈ tb1 ++ mid1, q.1 ≠ I ∧ q.1 ≠ D ∧ ∀ a ∈ [C], q.1 ≠ a := fun q hq => off q (.tail _ (.tail _ (.tail _ hq)))
        have hnew : ∀ q ∈ tb3 ++ (T3, tupOf #[.ref W3, .bool false]) :: (W3, listOf vs3.toArray n3) :: mid1, @Ne Nat q.1 I ∧ @Ne Nat q.1 D ∧ ∀ a ∈ [C], @Ne Nat q.1 a := fun q hq =>
          ⟨off_new ⟨oI, .head _⟩ (fun q hq => (h0 q hq).1) hlt3 hf3 q hq, off_new ⟨LCg.lst ps, .tail _ (.tail _ (.head _))⟩ (fun q hq => (h0 q hq).2.1) hlt3 hf3 q hq, fc (off_new ⟨oC, .tail _ (.head _)⟩ (fun q hq => (h0 q hq).2.2 _ (.head _)) hlt3 hf3 q hq) f0⟩
        exact fc (off _ (.head _)) (fc (off _ (.tail _ (.head _))) (fc (off _ (.tail _ (.tail _ (.head _)))) (fa (fun q hq => hnew _ (List.mem_append_left _ hq))
          (fc ⟨Nat.ne_of_gt (hlts _ (.head _)), Nat.ne_of_gt (hlts _ (.tail _ (.tail _ (.head _)))), fc (Nat.ne_of_gt (hlts _ (.tail _ (.head _)))) f0⟩ fun q hq => hnew _ (List.mem_append_right _ hq)))))
      · obtain ⟨o9, ho9⟩ := hTab3.has
        exact fc (Nat.ne_of_gt (hlts (797, o9) (.tail _ (.tail _ (.tail _ (.tail _ (.tail _ (.tail _ (.tail _ (.tail _ (List.mem_append_left _ ho9))))))))))) (fc hT3 (fc hW3 h7971))
      · rw [hstep, List.map_append]
        exact RowsAre.snoc (hps.mono fun _ _ _ hm' => .tail _ (.tail _ (.tail _ hm'))) (.head _) hS4
  case refine_4 =>
    clear F5 N5
    intro ps nw' D s₂ hJ
    induction hJ
    rename_i tb1 mid1 hTab1 h7971 hsub1 hps
    intro F N hD hg' ho'
    rw [hts.1, List.take_length] at hps
    exact hQ s₂ D ps tb1 mid1 hTab1 h7971 hsub1 hps F N hg' ho'
end
section
local macro_rules | `(tactic| walk_at "call builtin:sorted") => `(tactic| (refine stop_here ?_))
local macro_rules | `(tactic| walk_at "call builtin:max") => `(tactic| (refine stop_here ?_))
local macro_rules | `(tactic| walk_at "TurnsT") => `(tactic| (refine stop_here ?_))
local macro_rules | `(tactic| walk_at "subscriptTail") => `(tactic| ((with_reducible show wpAny _ _ (subscriptTail _ _ (Value.ref _) (Value.int _ _)) _ _ _); refine stop_here ?_))
theorem item_q {prog : Program} {w : World} {A : Around} {E : Value → Shared → Prop} {s : Shared} {value slice : Expr} {R : Addr} {items : Array Value} {k : Int} {t : Tok} {x : Value} {Q : Value → Shared → Prop} (hl : s.heap.IsList R items) (h0 : 0 ≤ k) (h1 : k < 2) (hx : items[k.toNat]? = some x) (h : Q x s)
    (hs : subscripted slice false (.ref R) (.int k t) = operate [.ref R, .int k t] (getItem (.ref R) (.int k t)) := by with_unfolding_all rfl) (ht : ∀ r, letTemporaryGo value (.ref R) r = pure () := by intro _; with_unfolding_all rfl) :
    wpAny (model prog w) A (subscriptTail value slice (.ref R) (.int k t)) Q E s :=
  subscriptTail_builtin hl.typeIs slot_list_getitem.lookup (wpAny_getItem_list hl h0 (by omega) hx h) hs ht
noncomputable def aloneF (r o : List Str) : List Str := (sortT r).flatMap fun x => if x ∈ o then [] else List.replicate (if o.all (fun a => ltT a x) then 2 else 1) x
theorem texts_rep (n : Nat) (x : Str) (t : Tok) : TextsAre (List.replicate n (.str x t)) (List.replicate n x) := by
  induction n with
  | zero => trivial
  | succ n ih => exact ⟨⟨t, rfl⟩, ih⟩
theorem all_most {M x : Str} {wy : List Str} (h1 : M ∈ wy) (h2 : ∀ a ∈ wy, ltT M a = false) : wy.all (fun a => ltT a x) = ltT M x := by
  cases e : ltT M x with
  | true => exact List.all_eq_true.mpr fun a ha => le_ltT (h2 a ha) e
  | false =>
    refine Bool.eq_false_iff.mpr fun h => ?_
    have := List.all_eq_true.mp h M h1
    rw [e] at this
    cases this
inductive AloneJ (base : List (Addr × Obj)) (rr : List (List Str)) (us : List Value) : List (Addr × Obj) → Prop
  | mk {more : List (Addr × Obj)} (h : RowsAre us (more ++ base) rr) : AloneJ base rr us (more ++ base)
inductive AloneK (full : List (Addr × Obj)) (ds : List Str) (zs : List Value) : List (Addr × Obj) → Prop
  | mk (h : TextsAre zs ds) : AloneK full ds zs full
inductive AloneX (A1 B1 : Addr) (base5 : List (Addr × Obj)) (wa wb : List Str) (i : Nat) (v : Value) : Prop
  | mk (X Y : Addr) (vx vy : List Value) (wx wy : List Str) (nx ny : Nat) (t : Tok) (f0 : v = .int (i : Int) t) (f1 : (#[Value.ref A1, .ref B1])[((i : Int)).toNat]? = some (.ref X)) (f2 : (#[Value.ref A1, .ref B1])[(1 - (i : Int)).toNat]? = some (.ref Y)) (f3 : (X, listOf (List.toArray vx) nx) ∈ base5) (f4 : (Y, listOf (List.toArray vy) ny) ∈ base5) (f5 : TextsAre vx wx) (f6 : TextsAre vy wy)
    (f7 : ([aloneF wa wb, aloneF wb wa].take (i + 1)) = ([aloneF wa wb, aloneF wb wa].take i) ++ [aloneF wx wy]) (f8 : wy ≠ []) (f9 : wx.length ≤ 20) (g0 : wy.length ≤ 20) (g1 : i < 2) (g2 : ∀ y ∈ wx, PyData.strOk y = true) (g3 : ∀ y ∈ wy, PyData.strOk y = true)
theorem s_alone : Wants PySem.Challenge.rw_in0077_01 Mine.K → ∀ (prog : Program) (w : World) (p : Program) (loose : List Str) (mean : ExcName → Option Value) (mg mb : Str → Option Value) (dp un : Nat) (gd : Option (List Code)) (a : Addr) (ccd : Value) (A₀ : Around) (base h₀ : Heap) (L : Addr) (m : Str → Option Value) (s : Shared) (Q : Flow → Shared → Prop) (E : Value → Shared → Prop)
    (R A1 B1 : Addr) (oc : Obj) (va vb : List Value) (wa wb : List Str) (na nb : Nat) (nw0 : List (Addr × Obj)),
    Below A₀ base [] h₀ → Fr h₀ L s.heap m → (Mine.K w.params).In h₀ → News h₀ L s.heap ((L + 1, oc) :: (R, listOf #[.ref A1, .ref B1] 0) :: (B1, listOf vb.toArray nb) :: (A1, listOf va.toArray na) :: nw0) → Top p loose mean mg mb h₀ → AtBase (Mine.K w.params) p loose mean mg mb base → oc.data = .cell (some (.ref R)) → TextsAre va wa → TextsAre vb wb → wa ≠ [] → wb ≠ [] → wa.length ≤ 20 → wb.length ≤ 20 → (∀ y ∈ wa, PyData.strOk y = true) → (∀ y ∈ wb, PyData.strOk y = true) → AllBare s.gens → dp + 60 < recursionLimit → un + 800 < cLine →
    (∀ s' D us nw', (∀ q ∈ nw0, q ∈ nw') → RowsAre us nw' [aloneF wa wb, aloneF wb wa] → Fr h₀ L s'.heap (fun z => if z = Str.ofString "alone" then some (.ref D) else m z) → News h₀ L s'.heap ((D, LCg.lst us) :: nw') → AllBare s'.gens → s'.os = s.os → Q .next s') →
    wpAny (model prog w) (lawA dp un gd L a ccd (fnS [40])) (exec (stAt (fnB [40]) 7) (lawX L a ccd (fnS [40]))) Q E s := by
  k_fill
  intro _ prog w p loose mean mg mb dp un gd a ccd A₀ base h₀ L m s Q E R A1 B1 oc va vb wa wb na nb nw0 B F X N T XB hoc hva hvb hwa hwb hla hlb hoka hokb hg hd hu hQ
  refine' lit_st (A := fun sc => lawA dp un gd L a ccd sc) (env := fun sc => lawX L a ccd sc) ?q1 ?q2 ?_
  case q1 => walk_at "WHNF"
  case q2 => walk_at "WHNF"
  refine comp_asg true F (by rfl) rfl (by with_unfolding_all rfl) (by with_unfolding_all rfl) (by rfl) (by decide) ⟨fun a => by rfl, fun h => by rfl, by rfl⟩ (by rfl) (by rfl) ?_
  k_steps
  unfold Stop
  rename Fr _ _ _ _ => F5
  rename News _ _ _ _ => N5
  rename_i Z h9 l9
  refine ⟨Z, [.int 0 s.toks, .int 1 (s.toks + 1)], 0, _, fun i us nw => AloneJ ((Z, listOf #[.int 0 s.toks, .int 1 (s.toks + 1)] 0) :: (L + 1, oc) :: (R, listOf #[.ref A1, .ref B1] 0) :: (B1, listOf vb.toArray nb) :: (A1, listOf va.toArray na) :: nw0) ([aloneF wa wb, aloneF wb wa].take i) us nw, rfl, F5, N5, ?_, hg, .mk (more := []) ⟨rfl, fun i v hv => by simp at hv⟩, ?_, ?_, ?_⟩
  case refine_1 => rw [sizeLine_eq]; show 2 ≤ 16777216; decide
  case refine_2 => intro i us nw hJ; induction hJ; exact List.mem_append_right _ (.head _)
  case refine_3 =>
    generalize hb5 : ((Z, listOf #[.int 0 s.toks, .int 1 (s.toks + 1)] 0) :: (L + 1, oc) :: (R, listOf #[.ref A1, .ref B1] 0) :: (B1, listOf vb.toArray nb) :: (A1, listOf va.toArray na) :: nw0) = base5 at *
    clear F5 N5 l9
    refine turnsG_some ?_
    intro i v us nw I oI D C c oC oc2 m₂ s₂ E' hv hcl hJ
    induction hJ
    rename_i more hus
    intro hC hoc2 F N off nd hg' ho'
    dsimp only [mkEnv]
    have hX : AloneX A1 B1 base5 wa wb i v := by
      subst hb5
      match i, hv with
      | 0, hv => exact ⟨A1, B1, va, vb, wa, wb, na, nb, _, (Option.some.inj hv).symm, rfl, rfl, .tail _ (.tail _ (.tail _ (.tail _ (.head _)))), .tail _ (.tail _ (.tail _ (.head _))), hva, hvb, rfl, hwb, hla, hlb, by decide, hoka, hokb⟩
      | 1, hv => exact ⟨B1, A1, vb, va, wb, wa, nb, na, _, (Option.some.inj hv).symm, rfl, rfl, .tail _ (.tail _ (.tail _ (.head _))), .tail _ (.tail _ (.tail _ (.tail _ (.head _)))), hvb, hva, rfl, hwa, hlb, hla, by decide, hokb, hoka⟩
      | n + 2, hv => simp at hv
    obtain ⟨X1, Y1, vx, vy, wx, wy, nx, ny, tq, rfl, hiX, hiY, hX, hY, hvx, hvy, hstep, hwy, hlx, hly, hi2, hokx, hoky⟩ := hX
    have hL5 : (L + 1, oc) ∈ base5 := hb5 ▸ .tail _ (.head _)
    have hR5 : (R, listOf #[.ref A1, .ref B1] 0) ∈ base5 := hb5 ▸ .tail _ (.tail _ (.head _))
    replace N : News h₀ L s₂.heap ((I, oI) :: (C, oC) :: (c, oc2) :: (D, LCg.lst us) :: (L + 1, oc) :: (R, listOf #[.ref A1, .ref B1] 0) :: (more ++ base5)) := news_sub N (fc (.head _) (fc (.tail _ (.head _)) (fc (.tail _ (.tail _ (.head _))) (fc (.tail _ (.tail _ (.tail _ (.head _)))) (fc (.tail _ (.tail _ (.tail _ (.tail _ (List.mem_append_right _ hL5))))) (fc (.tail _ (.tail _ (.tail _ (.tail _ (List.mem_append_right _ hR5))))) fun q hq => .tail _ (.tail _ (.tail _ (.tail _ hq)))))))))
    refine comp_two F rfl (by with_unfolding_all rfl) (by decide) (by rfl) (by decide) (by rfl) (by rfl) (by decide) (by decide) ?_
    k_steps
    show wpAny _ _ (subscriptTail _ _ (.ref R) (.int (i : Int) _)) _ _ _
    rename Fr _ _ _ _ => F6
    rename News _ _ _ _ => N6
    refine item_q (News.isList N6 (.tail _ (.tail _ (.tail _ (.tail _ (.tail _ (.head _))))))) (by omega) (by omega) hiX ?_
    k_steps
    show wpAny _ _ (call (.builtin "sorted") [.ref X1]) _ _ _
    refine sorted_T F6 N6 (News.isList N6 (.tail _ (.tail _ (.tail _ (.tail _ (.tail _ (.tail _ (List.mem_append_right _ hX)))))))) hvx (by have := texts_len hvx; omega) fun P h3 vs3 e3 F7 N7 hlt7 hS3 => ?_
    clear F6 N6
    k_steps
    unfold Stop
    rename Fr _ _ _ _ => F8
    rename News _ _ _ _ => N8
    refine ⟨P, vs3, e3, _, fun j zs nw2 => AloneK ((P, listOf vs3.toArray e3) :: (I, oI) :: (C, oC) :: (c, oc2) :: (D, LCg.lst us) :: (L + 1, oc) :: (R, listOf #[.ref A1, .ref B1] 0) :: (more ++ base5)) (((sortT wx).take j).flatMap (fun x => if x ∈ wy then [] else List.replicate (if wy.all (fun a => ltT a x) then 2 else 1) x)) zs nw2, rfl, F8, N8, ?_, hg', .mk trivial, ?_, ?_, ?_⟩
    case refine_1 => rw [texts_len hS3, (sortT_perm wx).length_eq]; omega
    case refine_2 => intro j zs nw2 hJ; induction hJ; exact .head _
    case refine_3 =>
      clear F8 N8 hlt7
      intro j v zs nw2 I2 oI2 D2 C2 oC2 m2 s₃ E2 hv2 hJ
      induction hJ
      rename_i hzs
      intro hC2 hm2 F N off2 nd2 hg2 ho2
      obtain ⟨x, tx, hx, rfl⟩ := texts_at hS3 hv2
      dsimp only
      k_steps
      show wpAny _ _ (subscriptTail _ _ (.ref R) (.int (1 - (i : Int)) _)) _ _ _
      rename Fr _ _ _ _ => F6
      rename News _ _ _ _ => N6
      refine item_q (News.isList N6 (show (R, listOf #[.ref A1, .ref B1] 0) ∈ _ by walk_at "MEM")) (by omega) (by omega) hiY ?_
      k_steps
      show wpAny _ _ (compareOp .NotIn (.str x tx) (.ref Y1)) _ _ _
      have hxw : x ∈ wx := (sortT_perm wx).mem_iff.mp (List.mem_of_getElem? hx)
      have hstepx : (sortT wx).take (j + 1) = (sortT wx).take j ++ [x] := by rw [List.take_add_one, hx]; rfl
      refine kqd_notIn (n₁ := []) (n₂ := []) N6 (show (Y1, listOf vy.toArray ny) ∈ _ by walk_at "MEM") rfl rfl (strs_dat (texts_strs hvy)) (fun _ h => nomatch h) (.str x tx) (fun _ h => nomatch h) (fun d hd => by obtain ⟨y, hy, rfl⟩ := List.mem_map.mp hd; exact hoky y hy) (hokx x hxw) (by show un + 64 < cLine; omega) ?_
      by_cases hxy : x ∈ wy
      · have hmem : Dat.str x ∈ wy.map Dat.str := List.mem_map_of_mem hxy
        simp only [hmem, decide_true, Bool.not_true]
        k_steps
        refine ⟨_, F6, N6, off2, .mk ?_, hg2, ho2⟩
        rw [hstepx, List.flatMap_append, List.flatMap_cons, List.flatMap_nil, if_pos hxy, List.append_nil, List.append_nil]
        exact hzs
      · have hmem : ¬ Dat.str x ∈ wy.map Dat.str := fun h => by
          obtain ⟨y, hy, e⟩ := List.mem_map.mp h
          cases e
          exact hxy hy
        simp only [hmem, decide_false, Bool.not_false]
        k_steps
        show wpAny _ _ (subscriptTail _ _ (.ref R) (.int (1 - (i : Int)) _)) _ _ _
        rename Fr _ _ _ _ => F7
        rename News _ _ _ _ => N7
        refine item_q (News.isList N7 (show (R, listOf #[.ref A1, .ref B1] 0) ∈ _ by walk_at "MEM")) (by omega) (by omega) hiY ?_
        k_steps
        show wpAny _ _ (call (.builtin "max") [.ref Y1]) _ _ _
        refine max_T rfl F7 N7 (News.isList N7 (show (Y1, listOf vy.toArray ny) ∈ _ by walk_at "MEM")) hvy hwy fun h4 tk4 M tM hM1 hM2 F8 N8 => ?_
        clear F7 N7
        k_steps
        rename IsRange _ _ _ _ _ _ _ _ => rg9
        rename Fr _ _ _ _ => F9
        rename News _ _ _ _ => N9
        have e1 : (1 + if decide (M.cps.toList < x.cps.toList) = true then (1 : Int) else 0) = ((if ltT M x = true then 2 else 1 : Nat) : Int) := by
          rw [ltT, ltCps_eq]
          cases decide (M.cps.toList < x.cps.toList) <;> rfl
        rw [e1] at rg9
        refine ⟨_, _, _, _, _, _, rfl, rg9, ?_, F9, N9, off2, .mk ?_, hg2, ho2⟩
        · split <;> decide
        · rw [hstepx, List.flatMap_append, List.flatMap_cons, List.flatMap_nil, if_neg hxy, List.append_nil, all_most hM1 hM2]
          exact texts_app hzs (texts_rep _ _ _)
    case refine_4 =>
      clear F8 N8 hlt7
      intro zs nw2 D2 s₃ hJ
      induction hJ
      rename_i hzs
      intro F N hD2 hg2 ho2
      have hl3 := texts_len hS3
      rw [hl3, List.take_length] at hzs
      show EndG _ _ _ _ _ _ _ _ _ _ _
      refine ⟨((D2, LCg.lst zs) :: more) ++ base5, F, news_sub N ?_, ?_, .mk (more := (D2, LCg.lst zs) :: more) ?_, hg2, ho2.trans ho'⟩
      · walk_at "SUBM"
      · exact fc ⟨(hD2 _ (.tail _ (.head _))).symm, (hD2 _ (.tail _ (.tail _ (.tail _ (.tail _ (.head _)))))).symm, fc (hD2 _ (.tail _ (.tail _ (.head _)))).symm (fc (hD2 _ (.tail _ (.tail _ (.tail _ (.head _))))).symm f0)⟩ off
      · rw [hstep]
        exact RowsAre.snoc (n := zs.length) (hus.mono fun _ _ _ hm' => .tail _ hm') (.head _) hzs
  case refine_4 =>
    intro us nw D s₂ hJ
    induction hJ
    rename_i more hus
    intro F N hD hg' ho'
    exact hQ s₂ D us _ (fun q hq => List.mem_append_right _ (.tail _ (.tail _ (.tail _ (.tail _ (.tail _ hq)))))) hus F N hg' ho'
end
section
local macro_rules | `(tactic| walk_at "compareOp Eq ref ref") => `(tactic| (refine stop_here ?_))
theorem texts_differ {v u : List Value} {x y : List Str} {n k : Nat} (h1 : TextsAre v x) (h2 : TextsAre u y) (hne : x ≠ y) : listOf v.toArray n ≠ listOf u.toArray k := fun e => by
  have e1 : v = u := by
    have := congrArg Obj.data e
    injection this with h1 h2
    simpa using h1
  subst e1
  refine hne ?_
  clear e hne
  induction v generalizing x y with
  | nil => cases x with | nil => (cases y with | nil => rfl | cons => exact h2.elim) | cons => exact h1.elim
  | cons a r ih =>
    cases x with
    | nil => exact h1.elim
    | cons b q =>
      cases y with
      | nil => exact h2.elim
      | cons c q2 =>
        obtain ⟨⟨t, rfl⟩, h1⟩ := h1
        obtain ⟨⟨u, e⟩, h2⟩ := h2
        cases e
        rw [ih h1 h2]
inductive RowsTwo (nw : List (Addr × Obj)) (x y : List Str) : List Value → Prop
  | mk {P0 P1 : Addr} {v0 v1 : List Value} {n0 n1 : Nat} (h0 : (P0, listOf (List.toArray v0) n0) ∈ nw) (h1 : (P1, listOf (List.toArray v1) n1) ∈ nw) (h2 : TextsAre v0 x) (h3 : TextsAre v1 y) : RowsTwo nw x y [.ref P0, .ref P1]
theorem len_two {α : Type} {l : List α} (h : l.length = 2) : ∃ a b, l = [a, b] := by
  cases l with
  | nil => cases h
  | cons a r =>
    cases r with
    | nil => cases h
    | cons b q =>
      cases q with
      | nil => exact ⟨a, b, rfl⟩
      | cons c q => exact absurd h (by simp only [List.length_cons]; omega)
theorem RowsAre.two {ps : List Value} {nw : List (Addr × Obj)} {x y : List Str} (h : RowsAre ps nw [x, y]) : RowsTwo nw x y ps := by
  obtain ⟨hl, hr⟩ := h
  obtain ⟨a, b, rfl⟩ := len_two hl
  obtain ⟨P0, v0, n0, r0, rfl, m0, e0, t0⟩ := hr 0 a rfl
  obtain ⟨P1, v1, n1, r1, rfl, m1, e1, t1⟩ := hr 1 b rfl
  cases e0
  cases e1
  exact .mk m0 m1 t0 t1
theorem s_ret : Wants PySem.Challenge.rw_in0077_01 Mine.K → ∀ (prog : Program) (w : World) (p : Program) (loose : List Str) (mean : ExcName → Option Value) (mg mb : Str → Option Value) (dp un : Nat) (gd : Option (List Code)) (a : Addr) (ccd : Value) (A₀ : Around) (base h₀ : Heap) (L : Addr) (m : Str → Option Value) (s : Shared) (Q : Flow → Shared → Prop) (E : Value → Shared → Prop)
    (Al Pr : Addr) (us ps : List Value) (Es As : List Str) (nw0 : List (Addr × Obj)),
    Below A₀ base [] h₀ → Fr h₀ L s.heap (fun z => if z = Str.ofString "alone" then some (.ref Al) else if z = Str.ofString "pair" then some (.ref Pr) else m z) → (Mine.K w.params).In h₀ → News h₀ L s.heap ((Al, LCg.lst us) :: (Pr, LCg.lst ps) :: nw0) → Top p loose mean mg mb h₀ → AtBase (Mine.K w.params) p loose mean mg mb base → RowsAre ps nw0 [Es, As] → RowsAre us nw0 [(sldL Es As [] []).1, (sldL Es As [] []).2] → Es ≠ As → Es.length ≤ 100 → As.length ≤ 100 → (∀ y ∈ (sldL Es As [] []).1, PyData.strOk y = true) → (∀ y ∈ (sldL Es As [] []).2, PyData.strOk y = true) → AllBare s.gens → dp + 60 < recursionLimit → un + 800 < cLine →
    (∀ s' m' nw', Fr h₀ L s'.heap m' → News h₀ L s'.heap nw' → (∀ q ∈ nw0, q ∈ nw') → AllBare s'.gens → s'.os = s.os → Q (.ret (.bool true)) s') →
    wpAny (model prog w) (lawA dp un gd L a ccd (fnS [40])) (exec (stAt (fnB [40]) 8) (lawX L a ccd (fnS [40]))) Q E s := by
  k_fill
  intro _ prog w p loose mean mg mb dp un gd a ccd A₀ base h₀ L m s Q E Al Pr us ps Es As nw0 B F X N T XB hps hus hne hEl hAl hok1 hok2 hg hd hu hQ
  refine' lit_st (A := fun sc => lawA dp un gd L a ccd sc) (env := fun sc => lawX L a ccd sc) ?q1 ?q2 ?_
  case q1 => walk_at "WHNF"
  case q2 => walk_at "WHNF"
  have hps2 := hps.two
  have hus2 := hus.two
  clear hps hus
  induction hps2
  rename_i P0 P1 v0 v1 n0 n1 hP0 hP1 ht0 ht1
  induction hus2
  rename_i U0 U1 w0 w1 k0 k1 hU0 hU1 hs0 hs1
  have hap : @Ne Nat P0 P1 := news_apart N (.tail _ (.tail _ hP0)) (.tail _ (.tail _ hP1)) (texts_differ ht0 ht1 hne)
  k_steps
  show wpAny _ _ (call (.ref 780) [.ref P0, .ref P1]) _ _ _
  rename Fr _ _ _ _ => F5
  rename News _ _ _ _ => N5
  refine c_sld trivial prog w p loose mean mg mb ((Al, LCg.lst [.ref U0, .ref U1]) :: (Pr, LCg.lst [.ref P0, .ref P1]) :: nw0) P0 P1 n0 n1 v0 v1 Es As hap ht0 ht1 hEl hAl _ _ _ _ _ _ _ _ _ _ _ _ _ _ _ _ B F5 X (fc (N5 _ (.tail _ (.tail _ hP0))) (fc (N5 _ (.tail _ (.tail _ hP1))) N5)) T XB rfl (by omega) (by omega) fun v news' h' tk' hO F7 N7 => ?_
  obtain ⟨T3, M3, U3, vm, vu, nm, nu, rfl, hvm, hvu, rfl⟩ := hO
  clear F5 N5
  k_steps
  show wpAny _ _ (compareOp .Eq (.ref T3) (.ref _)) _ _ _
  rename Fr _ _ _ _ => F8
  rename News _ _ _ _ => N8
  refine cmp_eq_same (d := .tuple [.list ((sldL Es As [] []).1.map Dat.str), .list ((sldL Es As [] []).2.map Dat.str)]) N8
    (.tuple (vs := [.ref M3, .ref U3]) (.tail _ (.head _)) (.cons (.list (.tail _ (.tail _ (.tail _ (.head _)))) (strs_dat (texts_strs hvm))) (.cons (.list (.tail _ (.tail _ (.head _))) (strs_dat (texts_strs hvu))) .nil))) (fun _ h => h)
    (.tuple (vs := [.ref U0, .ref U1]) (.head _) (.cons (.list (.tail _ (.tail _ (.tail _ (.tail _ (.tail _ (.tail _ (.tail _ (.tail _ hU0)))))))) (strs_dat (texts_strs hs0))) (.cons (.list (.tail _ (.tail _ (.tail _ (.tail _ (.tail _ (.tail _ (.tail _ (.tail _ hU1)))))))) (strs_dat (texts_strs hs1))) .nil))) (fun _ h => h) ?_ (by show un + 64 < cLine; omega) (hQ _ _ _ F8 N8 (fun q hq => .tail _ (.tail _ (.tail _ (.tail _ (.tail _ (.tail _ (.tail _ (.tail _ hq)))))))) hg rfl)
  refine Told.tuple fun d hd => ?_
  rcases List.mem_cons.mp hd with rfl | hd
  · exact Told.strs 7 hok1
  · cases List.mem_singleton.mp hd
    exact Told.strs 7 hok2
end
section
local macro_rules | `(tactic| walk_at "eval ListComp") => `(tactic| (refine stop_here ?_))
local macro_rules | `(tactic| walk_at "CompSrc") => `(tactic| (refine stop_here ?_))
local macro_rules | `(tactic| walk_at "exec Assign cons ListComp") => `(tactic| (refine stop_here ?_))
local macro_rules | `(tactic| walk_at "exec Assign cons ListComp") => `(tactic| (refine exec_asg (by with_unfolding_all rfl) ?_))
local macro_rules | `(tactic| walk_at "SLICE") => `(tactic| ((with_reducible show wpAny _ _ (subscriptTail _ (Expr.Slice _ _ none _) (Value.ref _) (Value.ref _)) _ _ _); k_dflt (refine slc ?_); intros; rename_i l1; (try k_lt l1)))
local macro_rules | `(tactic| walk_at "subscriptTail") => `(tactic| walk_at "SLICE")
local macro_rules | `(tactic| walk_at "CompSrcT") => `(tactic| (refine stop_here ?_))
theorem s_rows : Wants PySem.Challenge.rw_in0077_01 Mine.K → ∀ (prog : Program) (w : World) (p : Program) (loose : List Str) (mean : ExcName → Option Value) (mg mb : Str → Option Value) (dp un : Nat) (gd : Option (List Code)) (a : Addr) (ccd : Value) (A₀ : Around) (base h₀ : Heap) (L : Addr) (m : Str → Option Value) (s : Shared) (Q : Flow → Shared → Prop) (E : Value → Shared → Prop)
    (l : Addr) (vs : List Value) (ns : List Int) (oc : Obj) (nw0 : List (Addr × Obj)),
    Below A₀ base [] h₀ → Fr h₀ L s.heap (fun z => if z = Str.ofString "script" then some (.ref l) else m z) → (Mine.K w.params).In h₀ → News h₀ L s.heap ((L + 1, oc) :: nw0) → Top p loose mean mg mb h₀ → (∀ q ∈ nw0, @Ne Nat q.1 (L + 1)) → oc.data = .cell none → h₀.IsList l vs.toArray → IntsAre vs ns → vs.length ≤ 63 → dp + 60 < recursionLimit → un + 800 < cLine →
    (∀ h' tk' oc' R A1 B1 va vb na nb nw', oc'.data = .cell (some (.ref R)) → TextsAre va (rowsF (ns.take 6)).1 → TextsAre vb (rowsF (ns.take 6)).2 → Fr h₀ L h' (fun z => if z = Str.ofString "script" then some (.ref l) else m z) → News h₀ L h' ((L + 1, oc') :: (R, listOf #[.ref A1, .ref B1] 0) :: (B1, listOf vb.toArray nb) :: (A1, listOf va.toArray na) :: nw') → (∀ q ∈ nw0, q ∈ nw') → Q .next { s with heap := h', toks := tk' }) →
    wpAny (model prog w) (lawA dp un gd L a ccd (fnS [40])) (exec (stAt (fnB [40]) 0) (lawX L a ccd (fnS [40]))) Q E s := by
  k_fill
  intro _ prog w p loose mean mg mb dp un gd a ccd A₀ base h₀ L m s Q E l vs ns oc nw0 B F X N T hne hoc2 hl hI hv hd hu hQ
  refine' lit_st (A := fun sc => lawA dp un gd L a ccd sc) (env := fun sc => lawX L a ccd sc) ?q1 ?q2 ?_
  case q1 => walk_at "WHNF"
  case q2 => walk_at "WHNF"
  have hl2 : vs.toArray.size ≤ 1099511627776 := by rw [List.size_toArray]; omega
  k_steps
  show wpAny _ _ (call (.ref 785) [.ref _]) _ _ _
  rename Fr h₀ _ _ _ => F5
  rename News h₀ _ _ _ => N5
  rename IntsAre _ (List.take 6 ns) => hI6
  refine c_rows trivial prog w p loose mean mg mb ((L + 1, oc) :: nw0) _ _ (ns.take 6) _ hI6 (List.length_take_le _ _) _ _ _ _ _ _ _ _ _ _ _ _ _ _ _ _ _ B F5 X N5 T rfl (by omega) (by omega) fun v news' h' tk' hO F7 N7 => ?_
  obtain ⟨R, B1, A1, va, vb, na, nb, rfl, hva, hvb, rfl⟩ := hO
  clear F5 N5
  k_steps
  have zc := N7 (L + 1, oc) (by simp)
  refine wpAny_storeName_cell rfl (by rfl) (by rfl) ⟨oc, zc.1, hoc2⟩ fun h3 hv3 hs3 => ?_
  obtain ⟨oc3, eo3, hd3⟩ := hv3
  have hap : ∀ {x : Addr} {its : Array Value} {n : Nat}, (x, listOf its n) ∈ (R, listOf #[.ref A1, .ref B1] 0) :: (B1, listOf vb.toArray nb) :: (A1, listOf va.toArray na) :: (_, listOf _ 0) :: (L + 1, oc) :: nw0 → @Ne Nat x (L + 1) := fun hx =>
    news_apart N7 hx (.tail _ (.tail _ (.tail _ (.tail _ (.head _))))) fun e => by rw [← e] at hoc2; cases hoc2
  have N8 := news_one (pre := [(R, listOf #[.ref A1, .ref B1] 0), (B1, listOf vb.toArray nb), (A1, listOf va.toArray na), _]) N7 (fun p hp => ?_) hne hs3 eo3
  · refine hQ h3 tk' oc3 R A1 B1 va vb na nb nw0 hd3 hva hvb (F7.change hs3 zc.2.1 zc.2.2) (news_sub N8 fun q hq => ?_) fun _ h => h
    revert q hq; walk_at "SUBM"
  · simp only [List.mem_cons, List.not_mem_nil, or_false] at hp
    rcases hp with rfl | rfl | rfl | rfl
    · exact hap (.head _)
    · exact hap (.tail _ (.head _))
    · exact hap (.tail _ (.tail _ (.head _)))
    · exact hap (.tail _ (.tail _ (.tail _ (.head _))))
structure LawRows (wa wb : List Str) : Prop where
  ja : JoinRow wa
  jb : JoinRow wb
  sa : SpellRow wa
  sb : SpellRow wb
  pa : SplitRow wa
  pb : SplitRow wb
  ta : TapeRow wa
  tb : TapeRow wb
  ca : CutRow wa
  cb : CutRow wb
  ra : readF (tapeF wa.length wa) = (wa, false)
  rb : readF (tapeF wb.length wb) = (wb, false)
  oka : ∀ y ∈ wa, PyData.strOk y = true
  okb : ∀ y ∈ wb, PyData.strOk y = true
  ne : sortT (wa ++ wa) ≠ sortT (wb ++ wb)
  sld : sldL (sortT (wa ++ wa)) (sortT (wb ++ wb)) [] [] = (aloneF wa wb, aloneF wb wa)
theorem body9 : fnB [40] = [stAt (fnB [40]) 0, stAt (fnB [40]) 1, stAt (fnB [40]) 2, stAt (fnB [40]) 3, stAt (fnB [40]) 4, stAt (fnB [40]) 5, stAt (fnB [40]) 6, stAt (fnB [40]) 7, stAt (fnB [40]) 8] := by kernel_rfl
theorem RowsAre.pair {nw : List (Addr × Obj)} {P0 P1 : Addr} {v0 v1 : List Value} {n0 n1 : Nat} {x y : List Str} (h0 : (P0, listOf (List.toArray v0) n0) ∈ nw) (h1 : (P1, listOf (List.toArray v1) n1) ∈ nw) (t0 : TextsAre v0 x) (t1 : TextsAre v1 y) : RowsAre [.ref P0, .ref P1] nw [x, y] :=
  RowsAre.snoc (ys := [.ref P0]) (rs := [x]) (RowsAre.snoc (ys := []) (rs := []) ⟨rfl, fun i v hv => by simp at hv⟩ h0 t0) h1 t1
section
variable {prog : Program} {w : World} {p : Program} {loose : List Str} {mean : ExcName → Option Value} {mg mb : Str → Option Value} {dp un : Nat} {gd : Option (List Code)} {a : Addr} {ccd : Value} {A₀ : Around} {base h₀ : Heap} {L : Addr} {m : Str → Option Value} {s : Shared} {Q : Flow → Shared → Prop} {E : Value → Shared → Prop} {l : Addr} {vs : List Value} {ns : List Int} {oc : Obj}
theorem law_core (hW : Wants PySem.Challenge.rw_in0077_01 Mine.K) (B : Below A₀ base [] h₀) (F : Fr h₀ L s.heap (fun z => if z = Str.ofString "script" then some (.ref l) else m z)) (X : (Mine.K w.params).In h₀) (N : News h₀ L s.heap [(L + 1, oc), (760, tabObj #[]), (797, tabObj #[])]) (T : Top p loose mean mg mb h₀) (XB : AtBase (Mine.K w.params) p loose mean mg mb base)
    (h1 : @Ne Nat 760 (L + 1)) (h2 : @Ne Nat 797 (L + 1)) (hoc : oc.data = .cell none) (hl : h₀.IsList l vs.toArray) (hI : IntsAre vs ns) (hv : vs.length ≤ 63) (hR : LawRows (rowsF (ns.take 6)).1 (rowsF (ns.take 6)).2) (hg : AllBare s.gens) (hd : dp + 60 < recursionLimit) (hu : un + 800 < cLine)
    (fin : ∀ s' m' nw', Fr h₀ L s'.heap m' → News h₀ L s'.heap nw' → (∃ ps, (760, tabObj ps) ∈ nw') → (∃ ps, (797, tabObj ps) ∈ nw') → AllBare s'.gens → s'.os = s.os → Q (.ret (.bool true)) s') :
    wpAny (model prog w) (lawA dp un gd L a ccd (fnS [40])) (execs (fnB [40]) (lawX L a ccd (fnS [40]))) Q E s := by
  rw [body9]
  generalize hww : (rowsF (ns.take 6)) = ww at hR
  obtain ⟨wa, wb⟩ := ww
  dsimp only at hR
  refine wpAny_execs_cons ?_
  refine s_rows hW prog w p loose mean mg mb dp un gd a ccd A₀ base h₀ L m s _ _ l vs ns oc [(760, tabObj #[]), (797, tabObj #[])] B F X N T (fc h1 (fc h2 f0)) hoc hl hI hv hd hu fun h3 tk3 oc' R A1 B1 va vb na nb nw' hoc' hva hvb F3 N3 hsub3 => ?_
  rw [hww] at hva hvb
  show wpAny _ _ (execs _ _) _ _ _
  have z760 := hsub3 _ (.head _)
  have z797 := hsub3 _ (.tail _ (.head _))
  refine wpAny_execs_cons ?_
  refine s_join hW prog w p loose mean mg mb dp un gd a ccd A₀ base h₀ L _ _ _ _ R A1 B1 oc' va vb wa wb na nb #[] B F3 X (news_sub N3 (fc (.head _) (fc (.tail _ (.head _)) (fc (.tail _ (.tail _ (.head _))) (fc (.tail _ (.tail _ (.tail _ (.head _)))) (fc (.tail _ (.tail _ (.tail _ (.tail _ z760)))) (fc (.tail _ (.tail _ (.tail _ (.tail _ z797)))) f0))))))) T XB hoc' hva hvb hR.ja hR.jb hR.sa hR.sb ?_ hg hd hu fun s4 ps4 hps4 F4 N4 hg4 ho4 => ?_
  · exact .inl rfl
  show wpAny _ _ (execs _ _) _ _ _
  refine wpAny_execs_cons ?_
  refine s_found hW prog w p loose mean mg mb dp un gd a ccd A₀ base h₀ L _ _ _ _ R A1 B1 oc' va vb wa wb na nb ps4 B F4 X N4 T XB hoc' hva hvb hR.ja hR.jb hR.pa hR.pb hps4 hg4 hd hu fun s5 ps5 Fd ys ss hys F5 N5 hg5 ho5 => ?_
  show wpAny _ _ (execs _ _) _ _ _
  have hys2 := hys.two
  clear hys
  induction hys2
  rename_i P0 P1 v0 v1 n0 n1 hP0 hP1 ht0 ht1
  refine wpAny_execs_cons ?_
  have okr : ∀ r ∈ [wa, wb], ∀ y ∈ r, PyData.strOk y = true := List.forall_mem_cons.mpr ⟨hR.oka, List.forall_mem_cons.mpr ⟨hR.okb, fun _ h => nomatch h⟩⟩
  obtain ⟨mid, hmid⟩ : ∃ mid, mid = [(L + 1, oc'), (R, listOf #[.ref A1, .ref B1] 0), (P0, listOf v0.toArray n0), (P1, listOf v1.toArray n1), (B1, listOf vb.toArray nb), (A1, listOf va.toArray na), (760, tabObj ps5)] := ⟨_, rfl⟩
  have msub : ∀ q ∈ mid, q ∈ ss ++ lawLed L R A1 B1 oc' va vb na nb ps5 [(797, tabObj #[])] := by
    rw [hmid]
    exact fc (List.mem_append_right _ (.head _)) (fc (List.mem_append_right _ (.tail _ (.head _))) (fc hP0 (fc hP1 (fc (List.mem_append_right _ (.tail _ (.tail _ (.head _)))) (fc (List.mem_append_right _ (.tail _ (.tail _ (.tail _ (.head _))))) (fc (List.mem_append_right _ (.tail _ (.tail _ (.tail _ (.tail _ (.head _)))))) f0))))))
  have t797 : (797, tabObj #[]) ∈ ss ++ lawLed L R A1 B1 oc' va vb na nb ps5 [(797, tabObj #[])] := List.mem_append_right _ (.tail _ (.tail _ (.tail _ (.tail _ (.tail _ (.head _))))))
  have m797 : ∀ q ∈ mid, @Ne Nat q.1 797 := by
    have ms := msub
    rw [hmid] at ms ⊢
    exact fc (news_apart N5 (.tail _ (ms _ (.head _))) (.tail _ t797) (cell_ne_tab hoc')) (fc (news_apart N5 (.tail _ (ms _ (.tail _ (.head _)))) (.tail _ t797) list_ne_tab) (fc (news_apart N5 (.tail _ (ms _ (.tail _ (.tail _ (.head _))))) (.tail _ t797) list_ne_tab)
      (fc (news_apart N5 (.tail _ (ms _ (.tail _ (.tail _ (.tail _ (.head _)))))) (.tail _ t797) list_ne_tab) (fc (news_apart N5 (.tail _ (ms _ (.tail _ (.tail _ (.tail _ (.tail _ (.head _))))))) (.tail _ t797) list_ne_tab)
      (fc (news_apart N5 (.tail _ (ms _ (.tail _ (.tail _ (.tail _ (.tail _ (.tail _ (.head _)))))))) (.tail _ t797) list_ne_tab) (fc (show (760 : Nat) ≠ 797 by decide) f0))))))
  have hyr : RowsAre [.ref P0, .ref P1] mid [wa, wb] := .pair (show (P0, listOf v0.toArray n0) ∈ mid by rw [hmid]; exact .tail _ (.tail _ (.head _))) (show (P1, listOf v1.toArray n1) ∈ mid by rw [hmid]; exact .tail _ (.tail _ (.tail _ (.head _)))) ht0 ht1
  have hrr : RowsAre [.ref A1, .ref B1] mid [wa, wb] := .pair (show (A1, listOf va.toArray na) ∈ mid by rw [hmid]; exact .tail _ (.tail _ (.tail _ (.tail _ (.tail _ (.head _)))))) (show (B1, listOf vb.toArray nb) ∈ mid by rw [hmid]; exact .tail _ (.tail _ (.tail _ (.tail _ (.head _))))) hva hvb
  have hcm : (L + 1, oc') ∈ mid := by rw [hmid]; exact .head _
  have hRm : (R, listOf #[.ref A1, .ref B1] 0) ∈ mid := by rw [hmid]; exact .tail _ (.head _)
  have hBm : (B1, listOf vb.toArray nb) ∈ mid := by rw [hmid]; exact .tail _ (.tail _ (.tail _ (.tail _ (.head _))))
  have hAm : (A1, listOf va.toArray na) ∈ mid := by rw [hmid]; exact .tail _ (.tail _ (.tail _ (.tail _ (.tail _ (.head _)))))
  have h760m : (760, tabObj ps5) ∈ mid := by rw [hmid]; exact .tail _ (.tail _ (.tail _ (.tail _ (.tail _ (.tail _ (.head _))))))
  clear hmid
  have N6 : News h₀ L s5.heap ((Fd, LCg.lst [.ref P0, .ref P1]) :: (L + 1, oc') :: (R, listOf (List.toArray [.ref A1, .ref B1]) 0) :: ((797, tabObj #[]) :: mid)) := fc (N5 _ (.head _)) (fc (N5 _ (.tail _ (msub _ hcm))) (fc (N5 _ (.tail _ (msub _ hRm))) (fc (N5 _ (.tail _ t797)) fun q hq => N5 _ (.tail _ (msub _ hq)))))
  refine s_same hW prog w p loose mean mg mb dp un gd a ccd A₀ base h₀ L _ s5 _ _ R Fd oc' [.ref A1, .ref B1] [.ref P0, .ref P1] [wa, wb] ((797, tabObj #[]) :: mid) B F5 X N6 T hoc' (hrr.mono fun _ _ _ h => .tail _ h) (hyr.mono fun _ _ _ h => .tail _ h) okr hd hu ?_
  show wpAny _ _ (execs _ _) _ _ _
  refine wpAny_execs_cons ?_
  refine s_tapes hW prog w p loose mean mg mb dp un gd a ccd A₀ base h₀ L _ s5 _ _ Fd [.ref P0, .ref P1] [wa, wb] ((797, tabObj #[]) :: mid) B F5 X (news_sub N6 (fc (.head _) fun q hq => .tail _ (.tail _ (.tail _ hq)))) T (hyr.mono fun _ _ _ h => .tail _ h) (show 2 ≤ 10 by decide) (List.forall_mem_cons.mpr ⟨hR.ta, List.forall_mem_cons.mpr ⟨hR.tb, fun _ h => nomatch h⟩⟩) hg5 hd hu fun s7 Tp ts hts F7 N7 hg7 ho7 => ?_
  show wpAny _ _ (execs _ _) _ _ _
  refine wpAny_execs_cons ?_
  have hts2 : ∀ r ∈ [wa, wb], TapeRow r := List.forall_mem_cons.mpr ⟨hR.ta, List.forall_mem_cons.mpr ⟨hR.tb, fun _ h => nomatch h⟩⟩
  have hcs2 : ∀ r ∈ [wa, wb], CutRow r := List.forall_mem_cons.mpr ⟨hR.ca, List.forall_mem_cons.mpr ⟨hR.cb, fun _ h => nomatch h⟩⟩
  have hrd2 : ∀ r ∈ [wa, wb], readF (tapeF r.length r) = (r, false) := List.forall_mem_cons.mpr ⟨hR.ra, List.forall_mem_cons.mpr ⟨hR.rb, fun _ h => nomatch h⟩⟩
  have hT797 : @Ne Nat Tp 797 := news_apart N7 (.head _) (.tail _ (.tail _ (.head _))) (by exact list_ne_tab)
  obtain ⟨mid7, hmid7⟩ : ∃ mid7, mid7 = (Tp, LCg.lst ts) :: mid := ⟨_, rfl⟩
  have msub7 : ∀ q ∈ mid, q ∈ mid7 := fun q hq => hmid7 ▸ .tail _ hq
  have N7' := news_tl (news_tl N7)
  refine s_cuts hW prog w p loose mean mg mb dp un gd a ccd A₀ base h₀ L _ s7 _ _ R Tp oc' [.ref A1, .ref B1] ts [wa, wb] [(797, tabObj #[])] mid7 B F7 X (fc (N7' _ (.tail _ hcm)) (fc (N7' _ (.tail _ hRm)) (fc (N7 _ (.head _)) (fa (fc (N7' _ (.head _)) f0) (by rw [hmid7]; exact fc (N7 _ (.head _)) fun q hq => N7' _ (.tail _ hq)))))) T XB hoc' (msub7 _ hcm) (msub7 _ hRm) (hmid7 ▸ .head _) (.inl rfl) (by rw [hmid7]; exact fc hT797 m797) (hrr.mono fun _ _ _ h => msub7 _ h) hts (show 2 ≤ 10 by decide) hts2 hcs2 hg7 hd hu fun s8 tb8 mid8 hTab8 h7978 hsub8 F8 N8 hg8 ho8 => ?_
  show wpAny _ _ (execs _ _) _ _ _
  refine wpAny_execs_cons ?_
  refine s_pair hW prog w p loose mean mg mb dp un gd a ccd A₀ base h₀ L _ s8 _ _ R Tp oc' [.ref A1, .ref B1] ts [wa, wb] tb8 mid8 B F8 X N8 T XB (hsub8 _ (msub7 _ hcm)) (hsub8 _ (msub7 _ hRm)) (hsub8 _ (hmid7 ▸ .head _)) hTab8 h7978 hts (show 2 ≤ 10 by decide) hts2 hcs2 hrd2 hg8 hd hu fun s9 Pr ps tb9 mid9 hTab9 h7979 hsub9 hps F9 N9 hg9 ho9 => ?_
  show wpAny _ _ (execs _ _) _ _ _
  refine wpAny_execs_cons ?_
  have sub9 : ∀ q ∈ mid, q ∈ mid9 := fun q hq => hsub9 _ (hsub8 _ (msub7 _ hq))
  have N9t := news_tl (news_tl (news_tl (news_tl N9)))
  have hl1 : wa.length ≤ 20 := hR.ta.len
  have hl2 : wb.length ≤ 20 := hR.tb.len
  refine s_alone hW prog w p loose mean mg mb dp un gd a ccd A₀ base h₀ L _ s9 _ _ R A1 B1 oc' va vb wa wb na nb ((Pr, LCg.lst ps) :: (tb9 ++ mid9)) B F9 X (fc (N9t _ (List.mem_append_right _ (sub9 _ hcm))) (fc (N9t _ (List.mem_append_right _ (sub9 _ hRm))) (fc (N9t _ (List.mem_append_right _ (sub9 _ hBm))) (fc (N9t _ (List.mem_append_right _ (sub9 _ hAm))) (fc (N9 _ (.head _)) N9t))))) T XB hoc' hva hvb hR.pa.some_ hR.pb.some_ hl1 hl2 hR.oka hR.okb hg9 hd hu fun sa Al us nwa hsuba hus Fa Na hga hoa => ?_
  show wpAny _ _ (execs _ _) _ _ _
  refine wpAny_execs_cons ?_
  have e1 : (sldL (sortT (wa ++ wa)) (sortT (wb ++ wb)) [] []).1 = aloneF wa wb := by rw [hR.sld]
  have e2 : (sldL (sortT (wa ++ wa)) (sortT (wb ++ wb)) [] []).2 = aloneF wb wa := by rw [hR.sld]
  have l1 : (sortT (wa ++ wa)).length ≤ 100 := by rw [(sortT_perm _).length_eq, List.length_append]; omega
  have l2 : (sortT (wb ++ wb)).length ≤ 100 := by rw [(sortT_perm _).length_eq, List.length_append]; omega
  have a1 : ∀ {x y : List Str}, (∀ z ∈ x, PyData.strOk z = true) → ∀ z ∈ aloneF x y, PyData.strOk z = true := fun {x y} h z hz => by
    obtain ⟨u, hu, hz⟩ := List.mem_flatMap.mp hz
    split at hz
    · cases hz
    · rw [(List.mem_replicate.mp hz).2]; exact h u ((sortT_perm x).mem_iff.mp hu)
  refine s_ret hW prog w p loose mean mg mb dp un gd a ccd A₀ base h₀ L _ sa _ _ Al Pr us ps (sortT (wa ++ wa)) (sortT (wb ++ wb)) nwa B Fa X (fc (Na _ (.head _)) (fc (Na _ (.tail _ (hsuba _ (.head _)))) fun q hq => Na _ (.tail _ hq))) T XB (RowsAre.mono hps fun _ _ _ h => hsuba _ (.tail _ (List.mem_append_right _ h))) (by rw [e1, e2]; exact hus) hR.ne l1 l2 (by rw [e1]; exact a1 hR.oka) (by rw [e2]; exact a1 hR.okb) hga hd hu fun sb mb' nwb Fb Nb hsubb hgb hob => ?_
  obtain ⟨ps9, hps9⟩ : ∃ ps, (797, tabObj ps) ∈ tb9 := by
    rcases hTab9 with rfl | ⟨c1, c2, oc1, rfl, _⟩
    · exact ⟨_, .head _⟩
    · exact ⟨_, .head _⟩
  exact fin sb mb' nwb Fb Nb ⟨ps5, hsubb _ (hsuba _ (.tail _ (List.mem_append_right _ (sub9 _ h760m))))⟩ ⟨ps9, hsubb _ (hsuba _ (.tail _ (List.mem_append_left _ hps9)))⟩ hgb (by rw [hob, hoa, ho9, ho8, ho7, ho5, ho4])
end
noncomputable def dbl (l : List Str) : List Str := l.flatMap fun x => [x, x]
noncomputable def fAl (a b : List Str) : List Str := a.flatMap fun x => if x ∈ b then [] else List.replicate (if b.all (fun y => ltT y x) then 2 else 1) x
theorem dbl_perm : ∀ l : List Str, (dbl l).Perm (l ++ l)
  | [] => .refl _
  | x :: r => by
    show (x :: x :: dbl r).Perm (x :: (r ++ x :: r))
    exact .cons x (((dbl_perm r).cons x).trans List.perm_middle.symm)
theorem ltT_iff {x y : Str} : ltT x y = true ↔ x.cps.toList < y.cps.toList := by rw [ltT, ltCps_eq]; exact decide_eq_true_iff
theorem ins_sorted (x : Str) : ∀ l : List Str, l.Pairwise (fun a b => ltT b a = false) → (insT x l).Pairwise (fun a b => ltT b a = false)
  | [], _ => by simp [insT]
  | y :: r, h => by
    obtain ⟨h1, h2⟩ := List.pairwise_cons.mp h
    unfold insT
    split
    · rename_i hlt
      refine List.pairwise_cons.mpr ⟨fun z hz => ?_, ins_sorted x r h2⟩
      rcases List.mem_cons.mp ((ins_perm x r).mem_iff.mp hz) with rfl | hz
      · exact lt_asymmT hlt
      · exact h1 z hz
    · rename_i hlt
      have hyx : ltT y x = false := Bool.eq_false_iff.mpr hlt
      refine List.pairwise_cons.mpr ⟨fun z hz => ?_, h⟩
      rcases List.mem_cons.mp hz with rfl | hz
      · exact hyx
      · exact ltT_le (h1 z hz) hyx
theorem sort_pw : ∀ l : List Str, (sortT l).Pairwise (fun a b => ltT b a = false)
  | [] => .nil
  | x :: r => ins_sorted x _ (sort_pw r)
theorem dbl_pw : ∀ l : List Str, l.Pairwise (fun a b => ltT b a = false) → (dbl l).Pairwise (fun a b => ltT b a = false)
  | [], _ => .nil
  | x :: r, h => by
    obtain ⟨h1, h2⟩ := List.pairwise_cons.mp h
    have hm : ∀ z ∈ dbl r, ltT z x = false := fun z hz => by
      obtain ⟨u, hu, hz⟩ := List.mem_flatMap.mp hz
      have : z = u := by simpa using hz
      exact this ▸ h1 u hu
    show (x :: x :: dbl r).Pairwise _
    refine List.pairwise_cons.mpr ⟨fun z hz => ?_, List.pairwise_cons.mpr ⟨hm, dbl_pw r h2⟩⟩
    rcases List.mem_cons.mp hz with rfl | hz
    · exact ltT_ir _
    · exact hm z hz
theorem sort_dbl (l : List Str) : sortT (l ++ l) = dbl (sortT l) := by
  refine (sort_unique ?_ (sortedS_of_pairwise _ (dbl_pw _ (sort_pw l)))).symm
  exact (dbl_perm _).trans ((sortT_perm l).append (sortT_perm l))
theorem sort_strict {l : List Str} (h : l.Nodup) : (sortT l).Pairwise (fun a b => ltT a b = true) := by
  have hn : (sortT l).Nodup := (sortT_perm l).nodup_iff.mpr h
  refine (List.Pairwise.and (sort_pw l) hn).imp fun {a b} hab => ?_
  cases e : ltT a b with
  | true => rfl
  | false => exact absurd (lt_connT e hab.1) hab.2
theorem dw_dbl {x : Str} {a : List Str} (h : ∀ z ∈ a, ltT x z = true) : (x :: dbl a).dropWhile (· == x) = dbl a := by
  rw [List.dropWhile_cons, if_pos (beq_self_eq_true x)]
  cases a with
  | nil => rfl
  | cons z r =>
    have hz := h z (.head _)
    have : (z == x) = false := by
      refine beq_false_of_ne fun e => ?_
      subst e
      rw [ltT_ir] at hz
      cases hz
    show (z :: z :: dbl r).dropWhile _ = _
    rw [List.dropWhile_cons, this]
    rfl
theorem fAl_skip {x : Str} {a b : List Str} (h : ∀ z ∈ a, ltT x z = true) : fAl a (x :: b) = fAl a b := by
  unfold fAl
  induction a with
  | nil => rfl
  | cons z r ih =>
    rw [List.flatMap_cons, List.flatMap_cons, ih fun u hu => h u (.tail _ hu)]
    have hz := h z (.head _)
    have hne : z ≠ x := fun e => by subst e; rw [ltT_ir] at hz; cases hz
    congr 1
    simp only [List.mem_cons, hne, false_or, List.all_cons, hz, Bool.true_and]
theorem sld_law : ∀ (n : Nat) (a b : List Str), a.length + b.length ≤ n → a.Pairwise (fun a b => ltT a b = true) → b.Pairwise (fun a b => ltT a b = true) → ∀ ms us, sldL (dbl a) (dbl b) ms us = (ms ++ fAl a b, us ++ fAl b a) := by
  intro n
  have nilR : ∀ (a : List Str), fAl a [] = dbl a := fun a => by
    unfold fAl dbl
    refine congrArg (fun f => List.flatMap f a) (funext fun x => ?_)
    simp [List.replicate]
  have nilL : ∀ (a : List Str), fAl [] a = [] := fun _ => rfl
  induction n with
  | zero =>
    intro a b hn _ _ ms us
    cases a with
    | nil =>
      cases b with
      | nil => show sldL [] [] ms us = _; rw [sldL]; rfl; intro _ _ _ _ h; cases h
      | cons => simp at hn
    | cons => simp at hn
  | succ n ih =>
    intro a b hn ha hb ms us
    cases a with
    | nil =>
      rw [nilL, nilR]
      show sldL [] (dbl b) ms us = _
      rw [sldL]
      intro _ _ _ _ h; cases h
    | cons x a' =>
      cases b with
      | nil =>
        rw [nilL, nilR]
        show sldL (dbl (x :: a')) [] ms us = _
        rw [sldL]
        intro _ _ _ _ _ h; cases h
      | cons y b' =>
        obtain ⟨ha1, ha2⟩ := List.pairwise_cons.mp ha
        obtain ⟨hb1, hb2⟩ := List.pairwise_cons.mp hb
        show sldL (x :: x :: dbl a') (y :: y :: dbl b') ms us = _
        rw [sldL]
        simp only [List.length_cons] at hn
        by_cases hxy : x.cps.toList < y.cps.toList
        · rw [if_pos hxy, dw_dbl ha1]
          have hx : ltT x y = true := ltT_iff.mpr hxy
          have hxb : ∀ z ∈ y :: b', ltT x z = true := fun z hz => by
            rcases List.mem_cons.mp hz with rfl | hz
            · exact hx
            · exact lt_transT hx (hb1 z hz)
          have e := ih a' (y :: b') (by simp only [List.length_cons]; omega) ha2 hb (ms ++ [x]) us
          rw [show y :: y :: dbl b' = dbl (y :: b') from rfl, e, fAl_skip hxb]
          have : fAl (x :: a') (y :: b') = x :: fAl a' (y :: b') := by
            have h1 : x ∉ y :: b' := fun hm => by have := hxb x hm; rw [ltT_ir] at this; cases this
            have h2 : (y :: b').all (fun z => ltT z x) = false := by rw [List.all_cons, show ltT y x = false from lt_asymmT hx]; rfl
            unfold fAl
            rw [List.flatMap_cons, if_neg h1, h2]
            rfl
          rw [this, List.append_assoc]
          rfl
        · rw [if_neg hxy]
          by_cases hyx : y.cps.toList < x.cps.toList
          · rw [if_pos hyx, dw_dbl hb1]
            have hy : ltT y x = true := ltT_iff.mpr hyx
            have hya : ∀ z ∈ x :: a', ltT y z = true := fun z hz => by
              rcases List.mem_cons.mp hz with rfl | hz
              · exact hy
              · exact lt_transT hy (ha1 z hz)
            have e := ih (x :: a') b' (by simp only [List.length_cons]; omega) ha hb2 ms (us ++ [y])
            rw [show x :: x :: dbl a' = dbl (x :: a') from rfl, e, fAl_skip hya]
            have : fAl (y :: b') (x :: a') = y :: fAl b' (x :: a') := by
              have h1 : y ∉ x :: a' := fun hm => by have := hya y hm; rw [ltT_ir] at this; cases this
              have h2 : (x :: a').all (fun z => ltT z y) = false := by rw [List.all_cons, show ltT x y = false from lt_asymmT hy]; rfl
              unfold fAl
              rw [List.flatMap_cons, if_neg h1, h2]
              rfl
            rw [this, List.append_assoc]
            rfl
          · rw [if_neg hyx]
            have e0 : x = y := lt_connT (Bool.eq_false_iff.mpr fun h => hxy (ltT_iff.mp h)) (Bool.eq_false_iff.mpr fun h => hyx (ltT_iff.mp h))
            subst e0
            rw [dw_dbl ha1, dw_dbl hb1, ih a' b' (by omega) ha2 hb2 ms us]
            have k : ∀ {p q : List Str}, (∀ z ∈ p, ltT x z = true) → fAl (x :: p) (x :: q) = fAl p q := fun {p q} hp => by
              rw [show fAl (x :: p) (x :: q) = (if x ∈ x :: q then [] else _) ++ fAl p (x :: q) from rfl, if_pos (.head _), List.nil_append, fAl_skip hp]
            rw [k ha1, k hb1]
theorem alone_eq (a b : List Str) : aloneF a b = fAl (sortT a) (sortT b) := by
  unfold aloneF fAl
  refine congrArg (fun f => List.flatMap f (sortT a)) (funext fun x => ?_)
  have h1 : x ∈ b ↔ x ∈ sortT b := (sortT_perm b).mem_iff.symm
  have h2 : b.all (fun a => ltT a x) = (sortT b).all (fun a => ltT a x) := by
    rw [Bool.eq_iff_iff, List.all_eq_true, List.all_eq_true]
    exact ⟨fun h z hz => h z ((sortT_perm b).mem_iff.mp hz), fun h z hz => h z ((sortT_perm b).mem_iff.mpr hz)⟩
  by_cases hx : x ∈ b
  · rw [if_pos hx, if_pos (h1.mp hx)]
  · rw [if_neg hx, if_neg fun h => hx (h1.mpr h), h2]
theorem sld_rows {a b : List Str} (ha : a.Nodup) (hb : b.Nodup) : sldL (sortT (a ++ a)) (sortT (b ++ b)) [] [] = (aloneF a b, aloneF b a) := by
  rw [sort_dbl, sort_dbl, sld_law _ _ _ (Nat.le_refl _) (sort_strict ha) (sort_strict hb), alone_eq, alone_eq]
  rfl
noncomputable def cutG : List Str → Nat → List Str × Bool
  | [], _ => ([], false)
  | w :: ws, q => if 1 + w.length ≤ q then (w :: (cutG ws (q - (1 + w.length))).1, (cutG ws (q - (1 + w.length))).2) else ([], true)
theorem textOf_signs (w : Str) : textOf (w.cps.toList.map (fun (c : Nat) => (c : Int))) = w := by
  obtain ⟨⟨l⟩⟩ := w
  unfold textOf
  simp [Function.comp_def]
theorem readN_cut : ∀ (ws : List Str) (q : Nat), readN ws.length ((ws.flatMap tapeW).take q) = cutG ws q
  | [], q => rfl
  | w :: ws, 0 => by
    rw [List.take_zero]
    show ([], true) = cutG (w :: ws) 0
    unfold cutG
    rw [if_neg (by omega)]
  | w :: ws, q + 1 => by
    have e : ((w :: ws).flatMap tapeW).take (q + 1) = (w.length : Int) :: (w.cps.toList.map (fun (c : Nat) => (c : Int)) ++ ws.flatMap tapeW).take q := by
      rw [List.flatMap_cons, tapeW, List.cons_append, List.take_succ_cons]
    rw [e]
    show (if (w.length : Int).toNat ≤ _ then _ else _) = _
    rw [Int.toNat_natCast]
    have hl : (w.cps.toList.map (fun (c : Nat) => (c : Int))).length = w.length := by rw [List.length_map]; rfl
    unfold cutG
    by_cases h : 1 + w.length ≤ q + 1
    · rw [if_pos h, if_pos (by rw [List.length_take, List.length_append, hl]; omega)]
      have h1 : ((w.cps.toList.map (fun (c : Nat) => (c : Int)) ++ ws.flatMap tapeW).take q).take w.length = w.cps.toList.map (fun (c : Nat) => (c : Int)) := by
        rw [List.take_take, Nat.min_eq_left (by omega), ← hl, List.take_left']
        rfl
      have h2 : ((w.cps.toList.map (fun (c : Nat) => (c : Int)) ++ ws.flatMap tapeW).take q).drop w.length = (ws.flatMap tapeW).take (q + 1 - (1 + w.length)) := by
        rw [List.drop_take, ← hl, List.drop_left']
        · congr 1
          omega
        · rfl
      rw [h1, h2, textOf_signs, readN_cut ws]
    · rw [if_neg h, if_neg (by rw [List.length_take]; omega)]
theorem ends_pos (ws : List Str) (k : Nat) : 1 ≤ endsF ws k := by unfold endsF; omega
theorem ends_cons (w : Str) (ws : List Str) (k : Nat) : endsF (w :: ws) (k + 1) = (1 + w.length) + endsF ws k := by
  unfold endsF
  rw [List.take_succ_cons, List.map_cons, List.sum_cons]
  omega
theorem whole_cons (w : Str) (ws : List Str) (q : Nat) (h : 1 + w.length ≤ q) : wholeF (w :: ws) (q + 1) = 0 :: (wholeF ws (q - (1 + w.length) + 1)).map (· + 1) := by
  unfold wholeF
  rw [List.length_cons, List.range_succ_eq_map, List.filter_cons]
  have h0 : decide (endsF (w :: ws) 0 ≤ q + 1) = true := decide_eq_true (by show 1 ≤ q + 1; omega)
  rw [if_pos h0, List.filter_map]
  congr 2
  refine List.filter_congr fun k _ => ?_
  show decide (endsF (w :: ws) (k + 1) ≤ q + 1) = decide (endsF ws k ≤ q - (1 + w.length) + 1)
  rw [ends_cons]
  exact decide_eq_decide.mpr (by omega)
theorem whole_none (w : Str) (ws : List Str) (q : Nat) (h : ¬ 1 + w.length ≤ q) : wholeF (w :: ws) (q + 1) = [0] := by
  unfold wholeF
  rw [List.length_cons, List.range_succ_eq_map, List.filter_cons]
  have h0 : decide (endsF (w :: ws) 0 ≤ q + 1) = true := decide_eq_true (by show 1 ≤ q + 1; omega)
  rw [if_pos h0, List.filter_map]
  have : (List.range (ws.length + 1)).filter ((fun k => decide (endsF (w :: ws) k ≤ q + 1)) ∘ Nat.succ) = [] := by
    refine List.filter_eq_nil_iff.mpr fun k _ hk => ?_
    have hk2 : endsF (w :: ws) (k + 1) ≤ q + 1 := of_decide_eq_true hk
    rw [ends_cons] at hk2
    have := ends_pos ws k
    omega
  rw [this]
  rfl
theorem whole_ne (ws : List Str) (q : Nat) : wholeF ws (q + 1) ≠ [] := fun e => by
  have : 0 ∈ wholeF ws (q + 1) := by
    unfold wholeF
    exact List.mem_filter.mpr ⟨List.mem_range.mpr (Nat.succ_pos _), decide_eq_true (by show 1 ≤ q + 1; omega)⟩
  rw [e] at this
  cases this
theorem due_cut : ∀ (ws : List Str) (q : Nat), dueF ws (q + 1) = cutG ws q
  | [], q => by
    have e : wholeF [] (q + 1) = [0] := by
      show ([0] : List Nat).filter _ = [0]
      rw [List.filter_cons, if_pos (decide_eq_true (by show 1 ≤ q + 1; omega))]
      rfl
    unfold dueF
    rw [e]
    show (([] : List Str), decide (q + 1 < 1)) = ([], false)
    rw [decide_eq_false (by omega)]
  | w :: ws, q => by
    unfold cutG
    by_cases h : 1 + w.length ≤ q
    · rw [if_pos h, ← due_cut ws]
      unfold dueF
      rw [whole_cons w ws q h]
      have hne := whole_ne ws (q - (1 + w.length))
      obtain ⟨k, hk⟩ : ∃ k, (wholeF ws (q - (1 + w.length) + 1)).getLast? = some k := by
        cases e : (wholeF ws (q - (1 + w.length) + 1)).getLast? with
        | none => exact absurd (List.getLast?_eq_none_iff.mp e) hne
        | some k => exact ⟨k, rfl⟩
      have e2 : (0 :: (wholeF ws (q - (1 + w.length) + 1)).map (· + 1)).getLast? = some (k + 1) := by
        rw [List.getLast?_cons, List.getLast?_map, hk]
        rfl
      rw [e2, hk]
      show ((w :: ws).take (k + 1), _) = (w :: ws.take k, _)
      rw [List.take_succ_cons, List.length_cons, ends_cons]
      congr 1
      exact decide_eq_decide.mpr (by omega)
    · rw [if_neg h]
      unfold dueF
      rw [whole_none w ws q h]
      show (([] : List Str), decide (q + 1 < endsF (w :: ws) (ws.length + 1))) = ([], true)
      rw [decide_eq_true]
      rw [ends_cons]
      have := ends_pos ws ws.length
      omega
theorem read_due (ws : List Str) (p : Nat) : readF ((tapeF ws.length ws).take p) = dueF ws p := by
  cases p with
  | zero =>
    show ([], true) = dueF ws 0
    have e : wholeF ws 0 = [] := List.filter_eq_nil_iff.mpr fun k _ hk => by
      have h1 : endsF ws k ≤ 0 := of_decide_eq_true hk
      have := ends_pos ws k
      omega
    unfold dueF
    rw [e, decide_eq_true (show 0 < endsF ws ws.length from ends_pos ws _)]
    rfl
  | succ q =>
    rw [due_cut, ← readN_cut]
    show readF ((ws.length : Int) :: (ws.flatMap tapeW).take q) = _
    show readN (ws.length : Int).toNat _ = _
    rw [Int.toNat_natCast]
theorem cut_all : ∀ (ws : List Str) (q : Nat), (ws.flatMap tapeW).length ≤ q → cutG ws q = (ws, false)
  | [], _, _ => rfl
  | w :: ws, q, h => by
    have hl : (tapeW w).length = 1 + w.length := by
      show (w.cps.toList.map (fun (c : Nat) => (c : Int))).length + 1 = _
      rw [List.length_map]
      exact Nat.add_comm _ _
    rw [List.flatMap_cons, List.length_append, hl] at h
    unfold cutG
    rw [if_pos (by omega), cut_all ws _ (by omega)]
theorem read_all (ws : List Str) : readF (tapeF ws.length ws) = (ws, false) := by
  show readN (ws.length : Int).toNat _ = _
  rw [Int.toNat_natCast]
  have := readN_cut ws (ws.flatMap tapeW).length
  rw [List.take_length] at this
  rw [this, cut_all ws _ (Nat.le_refl _)]
theorem tape_len (ws : List Str) (b : Nat) (h : ∀ y ∈ ws, y.length ≤ b) : (tapeF ws.length ws).length ≤ 1 + ws.length * (1 + b) := by
  show (ws.flatMap tapeW).length + 1 ≤ _
  induction ws with
  | nil => simp
  | cons w ws ih =>
    have h1 := ih fun y hy => h y (.tail _ hy)
    have h2 := h w (.head _)
    have hl : (tapeW w).length = 1 + w.length := by
      show (w.cps.toList.map (fun (c : Nat) => (c : Int))).length + 1 = _
      rw [List.length_map]
      exact Nat.add_comm _ _
    rw [List.flatMap_cons, List.length_append, hl, List.length_cons, Nat.add_mul]
    omega
theorem dueF_mem {ws : List Str} {p : Nat} {y : Str} (h : y ∈ (dueF ws p).1) : y ∈ ws := by
  unfold dueF at h
  dsimp only at h
  split at h
  · cases h
  · exact List.mem_of_mem_take h
theorem due_over (ws : List Str) (p : Nat) : ∀ y ∈ (readF ((tapeF ws.length ws).take p)).1, y ∈ ws := fun y hy => dueF_mem (read_due ws p ▸ hy)
noncomputable def srOk (l : List Nat) (f : Bool) : Bool := match srch l with | some r => r.isSome == f | none => false
theorem srOk_is {x : Str} {f : Bool} (h : srOk x.cps.toList f = true) : SrchIs x f := by
  unfold srOk at h
  cases e : srch x.cps.toList with
  | none => rw [e] at h; cases h
  | some r => rw [e] at h; exact ⟨r, e, eq_of_beq h⟩
theorem sr_97 : srOk [97] false = true := by kernel_rfl
theorem sr_98 : srOk [98] false = true := by kernel_rfl
theorem sr_97_97 : srOk [97, 97] false = true := by kernel_rfl
theorem sr_97_98 : srOk [97, 98] false = true := by kernel_rfl
theorem sr_98_97 : srOk [98, 97] false = true := by kernel_rfl
theorem sr_98_98 : srOk [98, 98] false = true := by kernel_rfl
theorem sr_97_97_97 : srOk [97, 97, 97] false = true := by kernel_rfl
theorem sr_97_97_98 : srOk [97, 97, 98] false = true := by kernel_rfl
theorem sr_97_98_97 : srOk [97, 98, 97] false = true := by kernel_rfl
theorem sr_97_98_98 : srOk [97, 98, 98] false = true := by kernel_rfl
theorem sr_98_97_97 : srOk [98, 97, 97] false = true := by kernel_rfl
theorem sr_98_97_98 : srOk [98, 97, 98] false = true := by kernel_rfl
theorem sr_98_98_97 : srOk [98, 98, 97] false = true := by kernel_rfl
theorem sr_98_98_98 : srOk [98, 98, 98] false = true := by kernel_rfl
theorem sr_32_f0 : srOk [32] true = true := by kernel_rfl
theorem sr_39_f0 : srOk [39] true = true := by kernel_rfl
theorem sr_34_f0 : srOk [34] true = true := by kernel_rfl
theorem sr_92_f0 : srOk [92] true = true := by kernel_rfl
theorem sr_35_f0 : srOk [35] true = true := by kernel_rfl
theorem sr_233_f0 : srOk [233] true = true := by kernel_rfl
theorem sr_10_f0 : srOk [10] true = true := by kernel_rfl
theorem sr_32_f1 (x0 : Nat) : srOk [32, x0] true = true := by kernel_rfl
theorem sr_39_f1 (x0 : Nat) : srOk [39, x0] true = true := by kernel_rfl
theorem sr_34_f1 (x0 : Nat) : srOk [34, x0] true = true := by kernel_rfl
theorem sr_92_f1 (x0 : Nat) : srOk [92, x0] true = true := by kernel_rfl
theorem sr_35_f1 (x0 : Nat) : srOk [35, x0] true = true := by kernel_rfl
theorem sr_233_f1 (x0 : Nat) : srOk [233, x0] true = true := by kernel_rfl
theorem sr_10_f1 (x0 : Nat) : srOk [10, x0] true = true := by kernel_rfl
theorem sr_32_f2 (x0 x1 : Nat) : srOk [32, x0, x1] true = true := by kernel_rfl
theorem sr_39_f2 (x0 x1 : Nat) : srOk [39, x0, x1] true = true := by kernel_rfl
theorem sr_34_f2 (x0 x1 : Nat) : srOk [34, x0, x1] true = true := by kernel_rfl
theorem sr_92_f2 (x0 x1 : Nat) : srOk [92, x0, x1] true = true := by kernel_rfl
theorem sr_35_f2 (x0 x1 : Nat) : srOk [35, x0, x1] true = true := by kernel_rfl
theorem sr_233_f2 (x0 x1 : Nat) : srOk [233, x0, x1] true = true := by kernel_rfl
theorem sr_10_f2 (x0 x1 : Nat) : srOk [10, x0, x1] true = true := by kernel_rfl
theorem sr_97_32_f0 : srOk [97, 32] true = true := by kernel_rfl
theorem sr_97_39_f0 : srOk [97, 39] true = true := by kernel_rfl
theorem sr_97_34_f0 : srOk [97, 34] true = true := by kernel_rfl
theorem sr_97_92_f0 : srOk [97, 92] true = true := by kernel_rfl
theorem sr_97_35_f0 : srOk [97, 35] true = true := by kernel_rfl
theorem sr_97_233_f0 : srOk [97, 233] true = true := by kernel_rfl
theorem sr_97_10_f0 : srOk [97, 10] true = true := by kernel_rfl
theorem sr_98_32_f0 : srOk [98, 32] true = true := by kernel_rfl
theorem sr_98_39_f0 : srOk [98, 39] true = true := by kernel_rfl
theorem sr_98_34_f0 : srOk [98, 34] true = true := by kernel_rfl
theorem sr_98_92_f0 : srOk [98, 92] true = true := by kernel_rfl
theorem sr_98_35_f0 : srOk [98, 35] true = true := by kernel_rfl
theorem sr_98_233_f0 : srOk [98, 233] true = true := by kernel_rfl
theorem sr_98_10_f0 : srOk [98, 10] true = true := by kernel_rfl
theorem sr_97_32_f1 (x0 : Nat) : srOk [97, 32, x0] true = true := by kernel_rfl
theorem sr_97_39_f1 (x0 : Nat) : srOk [97, 39, x0] true = true := by kernel_rfl
theorem sr_97_34_f1 (x0 : Nat) : srOk [97, 34, x0] true = true := by kernel_rfl
theorem sr_97_92_f1 (x0 : Nat) : srOk [97, 92, x0] true = true := by kernel_rfl
theorem sr_97_35_f1 (x0 : Nat) : srOk [97, 35, x0] true = true := by kernel_rfl
theorem sr_97_233_f1 (x0 : Nat) : srOk [97, 233, x0] true = true := by kernel_rfl
theorem sr_97_10_f1 (x0 : Nat) : srOk [97, 10, x0] true = true := by kernel_rfl
theorem sr_98_32_f1 (x0 : Nat) : srOk [98, 32, x0] true = true := by kernel_rfl
theorem sr_98_39_f1 (x0 : Nat) : srOk [98, 39, x0] true = true := by kernel_rfl
theorem sr_98_34_f1 (x0 : Nat) : srOk [98, 34, x0] true = true := by kernel_rfl
theorem sr_98_92_f1 (x0 : Nat) : srOk [98, 92, x0] true = true := by kernel_rfl
theorem sr_98_35_f1 (x0 : Nat) : srOk [98, 35, x0] true = true := by kernel_rfl
theorem sr_98_233_f1 (x0 : Nat) : srOk [98, 233, x0] true = true := by kernel_rfl
theorem sr_98_10_f1 (x0 : Nat) : srOk [98, 10, x0] true = true := by kernel_rfl
theorem sr_97_97_32_f0 : srOk [97, 97, 32] true = true := by kernel_rfl
theorem sr_97_97_39_f0 : srOk [97, 97, 39] true = true := by kernel_rfl
theorem sr_97_97_34_f0 : srOk [97, 97, 34] true = true := by kernel_rfl
theorem sr_97_97_92_f0 : srOk [97, 97, 92] true = true := by kernel_rfl
theorem sr_97_97_35_f0 : srOk [97, 97, 35] true = true := by kernel_rfl
theorem sr_97_97_233_f0 : srOk [97, 97, 233] true = true := by kernel_rfl
theorem sr_97_97_10_f0 : srOk [97, 97, 10] true = true := by kernel_rfl
theorem sr_97_98_32_f0 : srOk [97, 98, 32] true = true := by kernel_rfl
theorem sr_97_98_39_f0 : srOk [97, 98, 39] true = true := by kernel_rfl
theorem sr_97_98_34_f0 : srOk [97, 98, 34] true = true := by kernel_rfl
theorem sr_97_98_92_f0 : srOk [97, 98, 92] true = true := by kernel_rfl
theorem sr_97_98_35_f0 : srOk [97, 98, 35] true = true := by kernel_rfl
theorem sr_97_98_233_f0 : srOk [97, 98, 233] true = true := by kernel_rfl
theorem sr_97_98_10_f0 : srOk [97, 98, 10] true = true := by kernel_rfl
theorem sr_98_97_32_f0 : srOk [98, 97, 32] true = true := by kernel_rfl
theorem sr_98_97_39_f0 : srOk [98, 97, 39] true = true := by kernel_rfl
theorem sr_98_97_34_f0 : srOk [98, 97, 34] true = true := by kernel_rfl
theorem sr_98_97_92_f0 : srOk [98, 97, 92] true = true := by kernel_rfl
theorem sr_98_97_35_f0 : srOk [98, 97, 35] true = true := by kernel_rfl
theorem sr_98_97_233_f0 : srOk [98, 97, 233] true = true := by kernel_rfl
theorem sr_98_97_10_f0 : srOk [98, 97, 10] true = true := by kernel_rfl
theorem sr_98_98_32_f0 : srOk [98, 98, 32] true = true := by kernel_rfl
theorem sr_98_98_39_f0 : srOk [98, 98, 39] true = true := by kernel_rfl
theorem sr_98_98_34_f0 : srOk [98, 98, 34] true = true := by kernel_rfl
theorem sr_98_98_92_f0 : srOk [98, 98, 92] true = true := by kernel_rfl
theorem sr_98_98_35_f0 : srOk [98, 98, 35] true = true := by kernel_rfl
theorem sr_98_98_233_f0 : srOk [98, 98, 233] true = true := by kernel_rfl
theorem sr_98_98_10_f0 : srOk [98, 98, 10] true = true := by kernel_rfl
noncomputable def sg9 : List Nat := [97, 98, 32, 39, 34, 92, 35, 233, 10]
theorem srch_1 (c0 : Nat) (h0 : c0 ∈ sg9) : srOk [c0] (!([c0].all safeCh)) = true := by
  simp only [sg9, List.mem_cons, List.not_mem_nil, or_false] at h0
  rcases h0 with rfl | rfl | rfl | rfl | rfl | rfl | rfl | rfl | rfl
  ·
    exact sr_97
  ·
    exact sr_98
  · exact sr_32_f0
  · exact sr_39_f0
  · exact sr_34_f0
  · exact sr_92_f0
  · exact sr_35_f0
  · exact sr_233_f0
  · exact sr_10_f0
theorem srch_2 (c0 c1 : Nat) (h0 : c0 ∈ sg9) (h1 : c1 ∈ sg9) : srOk [c0, c1] (!([c0, c1].all safeCh)) = true := by
  simp only [sg9, List.mem_cons, List.not_mem_nil, or_false] at h0
  rcases h0 with rfl | rfl | rfl | rfl | rfl | rfl | rfl | rfl | rfl
  ·
    simp only [sg9, List.mem_cons, List.not_mem_nil, or_false] at h1
    rcases h1 with rfl | rfl | rfl | rfl | rfl | rfl | rfl | rfl | rfl
    ·
      exact sr_97_97
    ·
      exact sr_97_98
    · exact sr_97_32_f0
    · exact sr_97_39_f0
    · exact sr_97_34_f0
    · exact sr_97_92_f0
    · exact sr_97_35_f0
    · exact sr_97_233_f0
    · exact sr_97_10_f0
  ·
    simp only [sg9, List.mem_cons, List.not_mem_nil, or_false] at h1
    rcases h1 with rfl | rfl | rfl | rfl | rfl | rfl | rfl | rfl | rfl
    ·
      exact sr_98_97
    ·
      exact sr_98_98
    · exact sr_98_32_f0
    · exact sr_98_39_f0
    · exact sr_98_34_f0
    · exact sr_98_92_f0
    · exact sr_98_35_f0
    · exact sr_98_233_f0
    · exact sr_98_10_f0
  · exact sr_32_f1 c1
  · exact sr_39_f1 c1
  · exact sr_34_f1 c1
  · exact sr_92_f1 c1
  · exact sr_35_f1 c1
  · exact sr_233_f1 c1
  · exact sr_10_f1 c1
theorem srch_3 (c0 c1 c2 : Nat) (h0 : c0 ∈ sg9) (h1 : c1 ∈ sg9) (h2 : c2 ∈ sg9) : srOk [c0, c1, c2] (!([c0, c1, c2].all safeCh)) = true := by
  simp only [sg9, List.mem_cons, List.not_mem_nil, or_false] at h0
  rcases h0 with rfl | rfl | rfl | rfl | rfl | rfl | rfl | rfl | rfl
  ·
    simp only [sg9, List.mem_cons, List.not_mem_nil, or_false] at h1
    rcases h1 with rfl | rfl | rfl | rfl | rfl | rfl | rfl | rfl | rfl
    ·
      simp only [sg9, List.mem_cons, List.not_mem_nil, or_false] at h2
      rcases h2 with rfl | rfl | rfl | rfl | rfl | rfl | rfl | rfl | rfl
      ·
        exact sr_97_97_97
      ·
        exact sr_97_97_98
      · exact sr_97_97_32_f0
      · exact sr_97_97_39_f0
      · exact sr_97_97_34_f0
      · exact sr_97_97_92_f0
      · exact sr_97_97_35_f0
      · exact sr_97_97_233_f0
      · exact sr_97_97_10_f0
    ·
      simp only [sg9, List.mem_cons, List.not_mem_nil, or_false] at h2
      rcases h2 with rfl | rfl | rfl | rfl | rfl | rfl | rfl | rfl | rfl
      ·
        exact sr_97_98_97
      ·
        exact sr_97_98_98
      · exact sr_97_98_32_f0
      · exact sr_97_98_39_f0
      · exact sr_97_98_34_f0
      · exact sr_97_98_92_f0
      · exact sr_97_98_35_f0
      · exact sr_97_98_233_f0
      · exact sr_97_98_10_f0
    · exact sr_97_32_f1 c2
    · exact sr_97_39_f1 c2
    · exact sr_97_34_f1 c2
    · exact sr_97_92_f1 c2
    · exact sr_97_35_f1 c2
    · exact sr_97_233_f1 c2
    · exact sr_97_10_f1 c2
  ·
    simp only [sg9, List.mem_cons, List.not_mem_nil, or_false] at h1
    rcases h1 with rfl | rfl | rfl | rfl | rfl | rfl | rfl | rfl | rfl
    ·
      simp only [sg9, List.mem_cons, List.not_mem_nil, or_false] at h2
      rcases h2 with rfl | rfl | rfl | rfl | rfl | rfl | rfl | rfl | rfl
      ·
        exact sr_98_97_97
      ·
        exact sr_98_97_98
      · exact sr_98_97_32_f0
      · exact sr_98_97_39_f0
      · exact sr_98_97_34_f0
      · exact sr_98_97_92_f0
      · exact sr_98_97_35_f0
      · exact sr_98_97_233_f0
      · exact sr_98_97_10_f0
    ·
      simp only [sg9, List.mem_cons, List.not_mem_nil, or_false] at h2
      rcases h2 with rfl | rfl | rfl | rfl | rfl | rfl | rfl | rfl | rfl
      ·
        exact sr_98_98_97
      ·
        exact sr_98_98_98
      · exact sr_98_98_32_f0
      · exact sr_98_98_39_f0
      · exact sr_98_98_34_f0
      · exact sr_98_98_92_f0
      · exact sr_98_98_35_f0
      · exact sr_98_98_233_f0
      · exact sr_98_98_10_f0
    · exact sr_98_32_f1 c2
    · exact sr_98_39_f1 c2
    · exact sr_98_34_f1 c2
    · exact sr_98_92_f1 c2
    · exact sr_98_35_f1 c2
    · exact sr_98_233_f1 c2
    · exact sr_98_10_f1 c2
  · exact sr_32_f2 c1 c2
  · exact sr_39_f2 c1 c2
  · exact sr_34_f2 c1 c2
  · exact sr_92_f2 c1 c2
  · exact sr_35_f2 c1 c2
  · exact sr_233_f2 c1 c2
  · exact sr_10_f2 c1 c2
noncomputable def lv9 : Nat → List (List Nat)
  | 0 => [[]]
  | n + 1 => sg9.flatMap fun c => (lv9 n).map (c :: ·)
theorem lv9_mem : ∀ l : List Nat, (∀ c ∈ l, c ∈ sg9) → l ∈ lv9 l.length
  | [], _ => .head _
  | c :: r, h => List.mem_flatMap.mpr ⟨c, h c (.head _), List.mem_map.mpr ⟨r, lv9_mem r fun d hd => h d (.tail _ hd), rfl⟩⟩
noncomputable def isW (y : Str) : Prop := (y.cps.toList.length ≤ 3 ∧ ∀ c ∈ y.cps.toList, c ∈ sg9) ∨ y = Str.ofString "it's" ∨ y = Str.ofString "#x"
theorem flat_free {z : List Nat} {c : Nat} : ∀ l : List Nat, c ∉ l → l.flatMap (fun k => if k = c then z else [k]) = l
  | [], _ => rfl
  | k :: r, h => by
    rw [List.flatMap_cons, if_neg (show ¬ k = c from fun e => h (by rw [e]; exact .head _)), flat_free r fun m => h (.tail _ m)]
    rfl
theorem join_flat (z : Str) (c : Nat) : ∀ parts : List Str, (∀ p ∈ parts, c ∉ p.cps.toList) → (Str.join z parts).cps.toList = (Str.join ⟨#[c]⟩ parts).cps.toList.flatMap fun k => if k = c then z.cps.toList else [k]
  | [], _ => rfl
  | [p], h => (flat_free _ (h p (.head _))).symm
  | p :: q :: r, h => by
    have ih := join_flat z c (q :: r) fun a ha => h a (.tail _ ha)
    show (p ++ z ++ Str.join z (q :: r)).cps.toList = List.flatMap _ (p ++ ⟨#[c]⟩ ++ Str.join ⟨#[c]⟩ (q :: r)).cps.toList
    simp only [Str.cps_append, Array.toList_append, List.flatMap_append]
    rw [ih, flat_free _ (h p (.head _))]
    simp
theorem replace_flat (x z : Str) (c : Nat) : (Txt.replace x ⟨#[c]⟩ z).cps.toList = x.cps.toList.flatMap fun k => if k = c then z.cps.toList else [k] := by
  rw [StrLaws.replace_one, join_flat z c _ (StrLaws.split_free x c), StrLaws.join_split]
noncomputable def qch (c : Nat) : List Nat := if c = 39 then [39, 34, 39, 34, 39] else [c]
noncomputable def quoteL (l : List Nat) : List Nat := if l.isEmpty then [39, 39] else if l.all safeCh then l else 39 :: (l.flatMap qch ++ [39])
theorem e39 : Str.ofString "'" = ⟨#[39]⟩ := by decide +kernel
theorem quoteQ_list (y : Str) : (quoteQ y).cps.toList = y.cps.toList.flatMap qch := by
  have e2 : (Str.ofString "'\"'\"'").cps.toList = [39, 34, 39, 34, 39] := by decide +kernel
  rw [quoteQ, e39, replace_flat, e2]
  rfl
theorem len0 {y : Str} : y.length = 0 ↔ y.cps.toList = [] := by
  show y.cps.size = 0 ↔ _
  rw [← Array.length_toList, List.length_eq_zero_iff]
theorem quoteF_list (y : Str) : (quoteF y).cps.toList = quoteL y.cps.toList := by
  unfold quoteF quoteL
  by_cases h : y.length = 0
  · rw [if_pos h, len0.mp h]
    decide +kernel
  · rw [if_neg h, if_neg (show ¬ y.cps.toList.isEmpty = true from fun e => h (len0.mpr (List.isEmpty_iff.mp e)))]
    by_cases k : y.cps.toList.all safeCh = true
    · rw [if_pos k, if_pos k]
    · rw [if_neg k, if_neg k, e39, Str.cps_append, Str.cps_append, Array.toList_append, Array.toList_append, quoteQ_list]
      rfl
theorem qch_len : ∀ l : List Nat, (l.flatMap qch).length ≤ 5 * l.length
  | [] => Nat.le_refl _
  | c :: r => by
    have h : (qch c).length ≤ 5 := by unfold qch; split <;> simp
    have := qch_len r
    rw [List.flatMap_cons, List.length_append, List.length_cons]
    omega
theorem spellQ_is (y : Str) : spellQ y = Str.ofString "'" ++ quoteQ y ++ Str.ofString "'" := by
  have e : Txt.join (Str.ofString "'\"'\"'") (Txt.split y (Str.ofString "'")) = quoteQ y := by
    rw [quoteQ, e39, StrLaws.replace_one]
    exact StrLaws.glued_eq_join _ _
  rw [spellQ, e]
theorem spell_same {y : Str} (h : ∀ c ∈ y.cps.toList, badCh c = !safeCh c) : spellF y = quoteF y := by
  by_cases h0 : y.length = 0
  · have : y = Str.ofString "" := str_empty h0
    subst this
    decide +kernel
  · unfold spellF quoteF
    rw [if_neg h0, if_neg (show ¬ y = Str.ofString "" from fun e => h0 (by rw [e]; decide +kernel))]
    have hs : signB y = [] ↔ y.cps.toList.all safeCh = true := by
      unfold signB
      rw [List.map_eq_nil_iff, List.filter_eq_nil_iff, List.all_eq_true]
      exact ⟨fun g c hc => by have := g c hc; rw [h c hc] at this; simpa using this, fun g c hc => by rw [h c hc, g c hc]; decide⟩
    by_cases k : y.cps.toList.all safeCh = true
    · rw [if_pos (hs.mpr k), if_pos k]
    · rw [if_neg (fun g => k (hs.mp g)), if_neg k, spellQ_is]
theorem sg9_bad : ∀ c ∈ sg9, badCh c = !safeCh c := by decide +kernel
theorem sg9_low : ∀ c ∈ sg9, c < 256 := by decide +kernel
theorem low_qch {l : List Nat} (h : ∀ c ∈ l, c < 256) : ∀ c ∈ l.flatMap qch, c < 256 := by
  intro c hc
  obtain ⟨k, hk, hm⟩ := List.mem_flatMap.mp hc
  unfold qch at hm
  split at hm
  · exact (show ∀ c ∈ [39, 34, 39, 34, 39], c < 256 by decide) c hm
  · rw [List.mem_singleton.mp hm]; exact h k hk
noncomputable def chkW (y : Str) : Bool := decide (spellF y = quoteF y) && decide ((quoteF y).length ≤ 20) && decide ((quoteQ y).length ≤ 20) && decide (((Txt.split y (Str.ofString "'")).map (·.length)).sum + (Txt.split y (Str.ofString "'")).length * (Str.ofString "'\"'\"'").length ≤ 1000) && decide ((Txt.join (Str.ofString "'\"'\"'") (Txt.split y (Str.ofString "'"))).length ≤ 1000) && PyData.strOk y && PyData.strOk (quoteF y)
theorem chk_its : chkW (Str.ofString "it's") = true := by decide +kernel
theorem chk_x : chkW (Str.ofString "#x") = true := by decide +kernel
theorem isW.srch {y : Str} (h : isW y) (hne : y.length ≠ 0) : SrchIs y (!y.cps.toList.all safeCh) := by
  refine srOk_is ?_
  rcases h with ⟨hl, hc⟩ | rfl | rfl
  · obtain ⟨⟨l⟩⟩ := y
    simp only at hl hc ⊢
    match l, hl, hc, hne with
    | [], _, _, hne => exact absurd rfl hne
    | [a], _, hc, _ => exact srch_1 a (hc a (.head _))
    | [a, b], _, hc, _ => exact srch_2 a b (hc a (.head _)) (hc b (.tail _ (.head _)))
    | [a, b, c], _, hc, _ => exact srch_3 a b c (hc a (.head _)) (hc b (.tail _ (.head _))) (hc c (.tail _ (.tail _ (.head _))))
  · kernel_rfl
  · kernel_rfl
theorem isW.short {y : Str} (h : isW y) : y.length ≤ 4 ∧ ∀ c ∈ y.cps.toList, c < 256 := by
  rcases h with ⟨hl, hc⟩ | rfl | rfl
  · refine ⟨Nat.le_succ_of_le hl, fun c hm => ?_⟩
    have := hc c hm
    simp only [sg9, List.mem_cons, List.not_mem_nil, or_false] at this
    omega
  · decide +kernel
  · decide +kernel
structure WordOk (y : Str) : Prop where
  same : spellF y = quoteF y
  q20 : (quoteF y).length ≤ 20
  qq : (quoteQ y).length ≤ 20
  p1 : ((Txt.split y (Str.ofString "'")).map (·.length)).sum + (Txt.split y (Str.ofString "'")).length * (Str.ofString "'\"'\"'").length ≤ 1000
  p2 : (Txt.join (Str.ofString "'\"'\"'") (Txt.split y (Str.ofString "'"))).length ≤ 1000
  ok : PyData.strOk y = true
  okq : PyData.strOk (quoteF y) = true
theorem strOk_list (x : Str) : PyData.strOk x = true ↔ ∀ c ∈ x.cps.toList, c < 0x110000 := by
  unfold PyData.strOk
  rw [Array.all_eq_true']
  simp
theorem word_low {y : Str} (hn : y.cps.toList.length ≤ 3) (hc : ∀ c ∈ y.cps.toList, c ∈ sg9) : WordOk y := by
  have hl : y.length = y.cps.toList.length := (Array.length_toList).symm
  have hq : (quoteQ y).length ≤ 5 * y.cps.toList.length := by
    show (quoteQ y).cps.size ≤ _
    rw [← Array.length_toList, quoteQ_list]
    exact qch_len _
  have l1 : ∀ c ∈ y.cps.toList, c < 256 := fun c h => sg9_low c (hc c h)
  have hw := split_weight y (Str.ofString "'") (by decide +kernel)
  have l5 : (Str.ofString "'\"'\"'").length = 5 := by decide +kernel
  refine ⟨spell_same fun c h => sg9_bad c (hc c h), ?_, by omega, by rw [l5]; omega, ?_, (strOk_list y).mpr fun c h => Nat.lt_trans (l1 c h) (by decide), (strOk_list _).mpr ?_⟩
  · show (quoteF y).cps.size ≤ 20
    rw [← Array.length_toList, quoteF_list]
    have := qch_len y.cps.toList
    unfold quoteL
    split
    · decide
    · split
      · omega
      · rw [List.length_cons, List.length_append]; show _ + 1 + 1 ≤ 20; omega
  · have e : Txt.join (Str.ofString "'\"'\"'") (Txt.split y (Str.ofString "'")) = quoteQ y := by
      rw [quoteQ, e39, StrLaws.replace_one]
      exact StrLaws.glued_eq_join _ _
    rw [e]; omega
  · rw [quoteF_list]
    have h2 := low_qch l1
    unfold quoteL
    split
    · decide
    · split
      · exact fun c h => Nat.lt_trans (l1 c h) (by decide)
      · intro c h
        rcases List.mem_cons.mp h with rfl | h
        · decide
        · rcases List.mem_append.mp h with h | h
          · exact Nat.lt_trans (h2 c h) (by decide)
          · rw [List.mem_singleton.mp h]; decide
theorem isW.word {y : Str} (h : isW y) : WordOk y := by
  have key : ∀ {z : Str}, chkW z = true → WordOk z := fun {z} this => by
    simp only [chkW, Bool.and_eq_true, decide_eq_true_eq] at this
    obtain ⟨⟨⟨⟨⟨⟨a, b⟩, c⟩, d⟩, e⟩, f⟩, g⟩ := this
    exact ⟨a, b, c, d, e, f, g⟩
  rcases h with ⟨hl, hc⟩ | rfl | rfl
  · exact word_low hl hc
  · exact key chk_its
  · exact key chk_x
theorem join_fold (sep : Str) : ∀ (ws : List Str) (acc : Array Nat), (ws.foldl (fun acc p => acc ++ sep.cps ++ p.cps) acc).toList = acc.toList ++ ws.flatMap fun y => sep.cps.toList ++ y.cps.toList
  | [], acc => by simp
  | w :: ws, acc => by
    rw [List.foldl_cons, join_fold sep ws]
    simp [List.append_assoc]
theorem join_list (sep x : Str) (ws : List Str) : (Txt.join sep (x :: ws)).cps.toList = x.cps.toList ++ ws.flatMap fun y => sep.cps.toList ++ y.cps.toList := join_fold sep ws x.cps
theorem join_nil (sep : Str) : (Txt.join sep []).cps.toList = [] := rfl
theorem join_len (sep : Str) (b : Nat) (ws : List Str) (h : ∀ y ∈ ws, y.length ≤ b) : (Txt.join sep ws).length ≤ ws.length * (b + sep.length) := by
  have key : ∀ l : List Str, (∀ y ∈ l, y.length ≤ b) → (l.flatMap fun y => sep.cps.toList ++ y.cps.toList).length ≤ l.length * (b + sep.length) := by
    intro l
    induction l with
    | nil => intro _; simp
    | cons w l ih =>
      intro h
      have h1 := ih fun y hy => h y (.tail _ hy)
      have h2 : w.cps.size ≤ b := h w (.head _)
      have h3 : sep.cps.size = sep.length := rfl
      rw [List.flatMap_cons, List.length_append, List.length_append, List.length_cons, Nat.add_mul, Array.length_toList, Array.length_toList]
      omega
  cases ws with
  | nil => exact Nat.zero_le _
  | cons w l =>
    have e : (Txt.join sep (w :: l)).length = (Txt.join sep (w :: l)).cps.toList.length := (Array.length_toList).symm
    have h1 := key l fun y hy => h y (.tail _ hy)
    have h2 : w.cps.size ≤ b := h w (.head _)
    rw [e, join_list, List.length_append, List.length_cons, Nat.add_mul, Array.length_toList]
    omega
noncomputable def isWB (y : Str) : Bool := decide (y.cps.toList.length ≤ 3) && y.cps.toList.all (fun c => sg9.contains c)
theorem isWB_is {y : Str} (h : isWB y = true) : isW y := by
  simp only [isWB, Bool.and_eq_true, decide_eq_true_eq, List.all_eq_true, List.contains_iff_mem] at h
  exact .inl h
theorem sign_low : ∀ k, (signsF.getD k (Str.ofString "")).cps.toList.length ≤ 1 ∧ ∀ c ∈ (signsF.getD k (Str.ofString "")).cps.toList, c ∈ sg9 := by
  intro k
  rcases Nat.lt_or_ge k 10 with h | h
  · revert k; decide +kernel
  · rw [List.getD_eq_getElem?_getD, List.getElem?_eq_none (by show 10 ≤ k; exact h)]; decide +kernel
theorem word_list (tx : Str) : (wordOf tx).cps.toList = tx.cps.toList.flatMap fun c => (signsF.getD (c - 48) (Str.ofString "")).cps.toList := by
  have e0 : (Str.ofString "").cps.toList = [] := by decide +kernel
  unfold wordOf
  cases tx.cps.toList with
  | nil => rfl
  | cons c r =>
    rw [List.map_cons, join_list, e0, List.flatMap_cons, List.flatMap_map]
    rfl
theorem word_is (x : Int) : isWB (wordOf (figT x)) = true := by
  have h3 : (figT x).cps.toList.length ≤ 3 := figT_len x
  simp only [isWB, Bool.and_eq_true, decide_eq_true_eq, List.all_eq_true, List.contains_iff_mem, word_list]
  generalize (figT x).cps.toList = l at h3
  refine ⟨Nat.le_trans ?_ h3, fun c hc => ?_⟩
  · clear h3
    induction l with
    | nil => exact Nat.le_refl _
    | cons c r ih =>
      have := (sign_low (c - 48)).1
      rw [List.flatMap_cons, List.length_append, List.length_cons]
      omega
  · obtain ⟨k, _, hk⟩ := List.mem_flatMap.mp hc
    exact (sign_low (k - 48)).2 c hk
structure RowOk (r : List Str) : Prop where
  w : ∀ y ∈ r, isW y
  len : r.length ≤ 10
  ne : r ≠ []
  nd : r.Nodup
structure Rows2 (n : Nat) (r : List Str × List Str) : Prop where
  wa : ∀ y ∈ r.1, isW y
  wb : ∀ y ∈ r.2, isW y
  la : r.1.length ≤ 4 + n
  lb : r.2.length ≤ 3 + n
  na : r.1.Nodup
  nb : r.2.Nodup
  ia : Str.ofString "it's" ∈ r.1
  ib : Str.ofString "it's" ∉ r.2
  xb : Str.ofString "#x" ∈ r.2
theorem rows_step {n : Nat} {r : List Str × List Str} (h : Rows2 n r) (x : Int) : Rows2 (n + 1) (rowsStep r x) := by
  have hw := word_is x
  have hi : ¬ Str.ofString "it's" = wordOf (figT x) := fun e => by rw [← e] at hw; exact absurd hw (by decide +kernel)
  obtain ⟨wa, wb, la, lb, na, nb, ia, ib, xb⟩ := h
  have any_no : ∀ {l : List Str}, ¬ l.any (· == wordOf (figT x)) = true → wordOf (figT x) ∉ l := fun h hm => h (List.any_eq_true.mpr ⟨_, hm, beq_self_eq_true _⟩)
  have nd : ∀ {l : List Str}, l.Nodup → wordOf (figT x) ∉ l → (l ++ [wordOf (figT x)]).Nodup := fun {l} h1 h2 => List.nodup_append.mpr ⟨h1, List.nodup_cons.mpr ⟨List.not_mem_nil, .nil⟩, fun a ha b hb e => by rw [List.mem_singleton.mp hb] at e; exact h2 (e ▸ ha)⟩
  have ww : ∀ {l : List Str}, (∀ y ∈ l, isW y) → ∀ y ∈ l ++ [wordOf (figT x)], isW y := fun {l} h y hy => by
    rcases List.mem_append.mp hy with hy | hy
    · exact h y hy
    · rw [List.mem_singleton.mp hy]; exact isWB_is hw
  unfold rowsStep
  split
  · split
    · exact ⟨wa, wb, Nat.le_succ_of_le la, Nat.le_succ_of_le lb, na, nb, ia, ib, xb⟩
    · rename_i hno
      exact ⟨ww wa, wb, by rw [List.length_append]; exact Nat.succ_le_succ la, Nat.le_succ_of_le lb, nd na (any_no hno), nb, List.mem_append_left _ ia, ib, xb⟩
  · split
    · exact ⟨wa, wb, Nat.le_succ_of_le la, Nat.le_succ_of_le lb, na, nb, ia, ib, xb⟩
    · rename_i hno
      refine ⟨wa, ww wb, Nat.le_succ_of_le la, by rw [List.length_append]; exact Nat.succ_le_succ lb, na, nd nb (any_no hno), ia, fun hm => ?_, List.mem_append_left _ xb⟩
      rcases List.mem_append.mp hm with hm | hm
      · exact ib hm
      · exact hi (List.mem_singleton.mp hm)
theorem rows_fold : ∀ (ns : List Int) (n : Nat) (r : List Str × List Str), Rows2 n r → Rows2 (n + ns.length) (ns.foldl rowsStep r)
  | [], _, _, h => h
  | x :: ns, n, r, h => by
    have := rows_fold ns (n + 1) (rowsStep r x) (rows_step h x)
    rw [List.foldl_cons, List.length_cons, show n + (ns.length + 1) = n + 1 + ns.length by omega]
    exact this
theorem rows_all (ns : List Int) : Rows2 ns.length (rowsF ns) := by
  have h0 : Rows2 0 ([Str.ofString "a b", Str.ofString "it's", Str.ofString "", Str.ofString "é"], [Str.ofString "a b", Str.ofString "#x", Str.ofString ""]) := by
    have k : ∀ {y : Str}, isWB y = true → isW y := isWB_is
    refine ⟨?_, ?_, by decide, by decide, by decide +kernel, by decide +kernel, .tail _ (.head _), by decide +kernel, .tail _ (.head _)⟩
    · intro y hy
      simp only [List.mem_cons, List.not_mem_nil, or_false] at hy
      rcases hy with rfl | rfl | rfl | rfl
      · exact k (by decide +kernel)
      · exact .inr (.inl rfl)
      · exact k (by decide +kernel)
      · exact k (by decide +kernel)
    · intro y hy
      simp only [List.mem_cons, List.not_mem_nil, or_false] at hy
      rcases hy with rfl | rfl | rfl
      · exact k (by decide +kernel)
      · exact .inr (.inr rfl)
      · exact k (by decide +kernel)
  have := rows_fold ns 0 _ h0
  rw [Nat.zero_add] at this
  exact this
theorem rows6 (ns : List Int) : RowOk (rowsF (ns.take 6)).1 ∧ RowOk (rowsF (ns.take 6)).2 ∧ Str.ofString "it's" ∈ (rowsF (ns.take 6)).1 ∧ Str.ofString "it's" ∉ (rowsF (ns.take 6)).2 := by
  have h := rows_all (ns.take 6)
  have hl : (ns.take 6).length ≤ 6 := List.length_take_le _ _
  have la := h.la
  have lb := h.lb
  exact ⟨⟨h.wa, by omega, List.ne_nil_of_mem h.ia, h.na⟩, ⟨h.wb, by omega, List.ne_nil_of_mem h.xb, h.nb⟩, h.ia, h.ib⟩
noncomputable def stS : Nat → Str
  | 0 => Str.ofString " "
  | 1 => Str.ofString "a"
  | 2 => Str.ofString "'"
  | _ => Str.ofString "\""
noncomputable def othL : List Nat := [97, 98, 32, 34, 35, 233, 10, 105, 116, 115, 120]
noncomputable def tstep (st : Nat) (tk : List Nat) (q : Bool) (c : Nat) : Option (Nat × List Nat × Bool) :=
  match st with
  | 0 => if c = 39 then some (2, tk, q) else if [97, 98].contains c then some (1, [c], q) else none
  | 1 => if c = 39 then some (2, tk, q) else if c = 34 then some (3, tk, q) else if [97, 98].contains c then some (1, tk ++ [c], q) else none
  | 2 => if c = 39 then some (1, tk, true) else if c = 92 then some (2, tk ++ [92], true) else if othL.contains c then some (2, tk ++ [c], true) else none
  | _ => if c = 39 then some (3, tk ++ [39], true) else if c = 34 then some (1, tk, true) else none
noncomputable def trun : List Nat → Nat → List Nat → Bool → Option (Nat × List Nat × Bool)
  | [], st, tk, q => some (st, tk, q)
  | c :: r, st, tk, q => match tstep st tk q c with
    | none => none
    | some (a, b, d) => trun r a b d
noncomputable def chkT (y : Str) : Bool := match trun (quoteF y).cps.toList 0 [] false with
  | some (1, tk, q) => tk == y.cps.toList && (q || !tk.isEmpty)
  | _ => false
theorem letc_ab {c : Nat} (h : [97, 98].contains c = true) : LETC ⟨#[c]⟩ := by
  have : c = 97 ∨ c = 98 := by simpa using h
  rcases this with rfl | rfl
  · constructor <;> decide +kernel
  · constructor <;> decide +kernel
theorem oth_ok : ∀ c ∈ othL, ((⟨#[c]⟩ : Str) == Str.ofString "'") = false ∧ (((⟨#[c]⟩ : Str) == Str.ofString "\n") = false ∨ (⟨#[c]⟩ : Str) = Str.ofString "\n") ∧ (Builtin.Str.occurrences (Str.ofString "\\") ⟨#[c]⟩ 0 (Str.ofString "\\").length 1).isEmpty = true := by decide +kernel
theorem app1 (tk : List Nat) (c : Nat) : (⟨tk.toArray⟩ : Str) ++ ⟨#[c]⟩ = ⟨(tk ++ [c]).toArray⟩ := by
  show Str.append _ _ = _
  simp [Str.append]
theorem tk_sz {tk : List Nat} {c : Nat} (h : tk.length + 1 ≤ 2000) : (⟨tk.toArray⟩ : Str).length + (⟨#[c]⟩ : Str).length ≤ sizeLine := by
  rw [sizeLine_eq]
  show tk.toArray.size + 1 ≤ _
  rw [List.size_toArray]
  omega
theorem tstep_turn {b : Str} {st st' : Nat} {tk tk' : List Nat} {q q' : Bool} {c : Nat} {p : Int} (h : tstep st tk q c = some (st', tk', q')) (hl : tk.length + 1 ≤ 2000) (hc : chAt b p = ⟨#[c]⟩) : RtTurn b (stS st) ⟨tk.toArray⟩ q p (stS st') ⟨tk'.toArray⟩ q' (p + 1) := by
  have c39 : (⟨#[39]⟩ : Str) = Str.ofString "'" := by decide +kernel
  have c34 : (⟨#[34]⟩ : Str) = Str.ofString "\"" := by decide +kernel
  have c92 : (⟨#[92]⟩ : Str) = Str.ofString "\\" := by decide +kernel
  unfold tstep at h
  split at h
  · split at h
    · rename_i e; subst e; cases h; exact .s_quote (hc.trans c39)
    · split at h
      · rename_i e; cases h; exact .s_letter hc (letc_ab e)
      · cases h
  · split at h
    · rename_i e; subst e; cases h; exact .a_quote (hc.trans c39)
    · split at h
      · rename_i e; subst e; cases h; exact .a_dquote (hc.trans c34)
      · split at h
        · rename_i e; cases h; rw [← app1]; exact .a_letter hc (letc_ab e) (tk_sz hl)
        · cases h
  · split at h
    · rename_i e; subst e; cases h; exact .q_quote (hc.trans c39)
    · split at h
      · rename_i e; subst e; cases h; rw [← app1, c92]; exact .q_back (hc.trans c92) (tk_sz (c := 92) hl)
      · split at h
        · rename_i e
          cases h
          obtain ⟨h1, h2, h3⟩ := oth_ok c (by simpa using e)
          rw [← app1]
          exact .q_other hc h1 h2 h3 ⟨Nat.zero_lt_one, show 1 < 2 ^ 62 by decide⟩ (tk_sz hl)
        · cases h
  · have e9 : stS st = Str.ofString "\"" := by
      rename_i h0 h1 h2
      match st, h0, h1, h2 with
      | 0, h0, _, _ => exact absurd rfl h0
      | 1, _, h1, _ => exact absurd rfl h1
      | 2, _, _, h2 => exact absurd rfl h2
      | n + 3, _, _, _ => rfl
    rw [e9]
    split at h
    · rename_i e; subst e; cases h; rw [← app1, c39]; exact .d_quote (hc.trans c39) (tk_sz (c := 39) hl)
    · split at h
      · rename_i e; subst e; cases h; exact .d_close (hc.trans c34)
      · cases h
theorem tstep_len {st st' : Nat} {tk tk' : List Nat} {q q' : Bool} {c : Nat} (h : tstep st tk q c = some (st', tk', q')) : tk'.length ≤ tk.length + 1 := by
  unfold tstep at h
  repeat' (split at h)
  all_goals (cases h; try simp)
theorem ch_drop {b : Str} {p c : Nat} {r : List Nat} (h : b.cps.toList.drop p = c :: r) : chAt b (p : Int) = ⟨#[c]⟩ := by
  unfold chAt
  have : b.cps.toList[p]? = some c := by
    have := congrArg (fun l => l[0]?) h
    simpa using this
  rw [Array.getElem?_toList] at this
  rw [Int.toNat_natCast, Array.getD_eq_getD_getElem?, this]
  rfl
theorem len_drop {b : Str} {p : Nat} {l : List Nat} (h : b.cps.toList.drop p = l) (hne : l ≠ []) : b.length = p + l.length := by
  have h1 := congrArg List.length h
  rw [List.length_drop, Array.length_toList] at h1
  have h2 : 0 < l.length := List.length_pos_iff.mpr hne
  show b.cps.size = _
  omega
theorem trun_steps {b : Str} : ∀ (l : List Nat) (st : Nat) (tk : List Nat) (q : Bool) (st' : Nat) (tk' : List Nat) (q' : Bool) (p : Nat) (rest : List Nat), trun l st tk q = some (st', tk', q') → b.cps.toList.drop p = l ++ rest → 2 ≤ rest.length → tk.length + l.length ≤ 1000 →
    RtSteps b (stS st) ⟨tk.toArray⟩ q (p : Int) (stS st') ⟨tk'.toArray⟩ q' ((p + l.length : Nat) : Int)
  | [], st, tk, q, st', tk', q', p, rest, h, _, _, _ => by cases h; exact .refl
  | c :: r, st, tk, q, st', tk', q', p, rest, h, hd, h2, hl => by
    unfold trun at h
    split at h
    · cases h
    · rename_i a t d e
      have hlen := len_drop hd (by simp)
      rw [List.length_append, List.length_cons] at hlen
      rw [List.length_cons] at hl
      have htl := tstep_len e
      have hd2 : b.cps.toList.drop (p + 1) = r ++ rest := by
        rw [← List.drop_drop, hd]
        rfl
      have := trun_steps r a t d st' tk' q' (p + 1) rest h hd2 h2 (by omega)
      rw [List.length_cons, show p + (r.length + 1) = p + 1 + r.length by omega]
      exact .step (tstep_turn e (by omega) (ch_drop hd)) (by omega) (by omega) this
noncomputable def chkL (l : List Nat) : Bool := match trun (quoteL l) 0 [] false with
  | some (1, tk, q) => tk == l && (q || !tk.isEmpty)
  | _ => false
theorem chkL_all {n : Nat} (h : ((lv9 n).all chkL) = true) : ∀ l ∈ lv9 n, chkT ⟨l.toArray⟩ = true := fun l hl => by
  unfold chkT
  rw [quoteF_list]
  exact List.all_eq_true.mp h l hl
theorem tk0 : ∀ l ∈ lv9 0, chkT ⟨l.toArray⟩ = true := chkL_all (by decide +kernel)
theorem tk1 : ∀ l ∈ lv9 1, chkT ⟨l.toArray⟩ = true := chkL_all (by decide +kernel)
theorem tk2 : ∀ l ∈ lv9 2, chkT ⟨l.toArray⟩ = true := chkL_all (by decide +kernel)
theorem tk3 : ∀ l ∈ lv9 3, chkT ⟨l.toArray⟩ = true := chkL_all (by decide +kernel)
theorem tk_its : chkT (Str.ofString "it's") = true := by decide +kernel
theorem tk_x : chkT (Str.ofString "#x") = true := by decide +kernel
theorem isW.chkT {y : Str} (h : isW y) : chkT y = true := by
  rcases h with ⟨hl, hc⟩ | rfl | rfl
  · obtain ⟨⟨l⟩⟩ := y
    have hm := lv9_mem l hc
    simp only at hl
    match l, hl, hm with
    | [], _, hm => exact tk0 _ hm
    | [_], _, hm => exact tk1 _ hm
    | [_, _], _, hm => exact tk2 _ hm
    | [_, _, _], _, hm => exact tk3 _ hm
  · exact tk_its
  · exact tk_x
theorem isW.tok {y : Str} (h : isW y) : ∃ q, trun (quoteF y).cps.toList 0 [] false = some (1, y.cps.toList, q) ∧ (q = true ∨ y.cps.toList ≠ []) := by
  have := h.chkT
  unfold Mine.chkT at this
  split at this
  · rename_i tk q e
    simp only [Bool.and_eq_true, Bool.or_eq_true, Bool.not_eq_true', beq_iff_eq] at this
    obtain ⟨h1, h2⟩ := this
    subst h1
    refine ⟨q, e, h2.imp id fun h3 h4 => ?_⟩
    rw [h4] at h3
    cases h3
  · cases this
noncomputable def tailL : List Nat := [35, 32, 105, 116, 39, 115]
noncomputable def tokL (ws : List Str) : List Nat := (ws.flatMap fun y => (quoteF y).cps.toList ++ [32]) ++ tailL
theorem tok_shift : ∀ (ws : List Str), (ws.flatMap fun y => [32] ++ (quoteF y).cps.toList) ++ 32 :: tailL = 32 :: tokL ws
  | [] => rfl
  | w :: ws => by
    rw [List.flatMap_cons, tokL, List.flatMap_cons, List.append_assoc, tok_shift ws]
    simp [tokL, List.append_assoc]
theorem tok_list {r : List Str} (hne : r ≠ []) : (joinF r ++ Str.ofString " # it's").cps.toList = tokL r := by
  have e1 : (joinF r ++ Str.ofString " # it's").cps.toList = (joinF r).cps.toList ++ (Str.ofString " # it's").cps.toList := by
    show (Str.append _ _).cps.toList = _
    simp [Str.append]
  have e2 : (Str.ofString " # it's").cps.toList = 32 :: tailL := by decide +kernel
  have e3 : (Str.ofString " ").cps.toList = [32] := by decide +kernel
  rw [e1, e2]
  cases r with
  | nil => exact absurd rfl hne
  | cons w ws =>
    show (Txt.join (Str.ofString " ") (quoteF w :: ws.map quoteF)).cps.toList ++ _ = _
    rw [join_list, e3, List.flatMap_map, List.append_assoc, tok_shift ws, tokL, tokL, List.flatMap_cons]
    simp [List.append_assoc]
theorem occ_empty {x y : Str} {lo hi : Nat} (h : ∀ i, lo ≤ i → i + y.length ≤ hi → Builtin.Str.subAt x y i = false) : Builtin.Str.occurrences x y lo hi 1 = [] := by
  rw [StrLaws.occ_eq]
  have key := (StrLaws.occ_none x y hi (List.range' lo (hi + 1 - lo)) lo (fun i hi => by rw [List.mem_range'_1] at hi; exact hi.1)).mpr fun i hm hc => by
    rw [List.mem_range'_1] at hm
    have := h i hm.1 hc.1
    rw [hc.2] at this
    cases this
  rw [key]
theorem find_no {b : Str} {p : Nat} (h : b.cps.toList.drop p = tailL) : find4 b (Str.ofString "\n") ((p : Int) + 1) b.length = -1 := by
  have hlen := len_drop h (by decide)
  have e10 : Str.ofString "\n" = ⟨#[10]⟩ := by decide +kernel
  unfold find4
  rw [occ_empty]
  rw [e10]
  intro i h1 h2
  have hp : p ≤ i := by
    unfold fromIndex at h1
    split at h1 <;> omega
  cases e : Builtin.Str.subAt b ⟨#[10]⟩ i with
  | false => rfl
  | true =>
    have e2 : b.cps.extract i (i + 1) = #[10] := eq_of_beq e
    have e3 : b.cps[i]? = some 10 := by
      have := congrArg (fun a => a[0]?) e2
      simp [Array.getElem?_extract] at this
      exact this.2
    have e4 : tailL[i - p]? = some 10 := by
      rw [← h, List.getElem?_drop, show p + (i - p) = i by omega, Array.getElem?_toList]
      exact e3
    exact absurd (List.mem_of_getElem? e4) (by decide)
theorem str_of_list (y : Str) : (⟨y.cps.toList.toArray⟩ : Str) = y := by
  obtain ⟨⟨l⟩⟩ := y
  rfl
theorem toks_all {b : Str} : ∀ (ws : List Str) (p : Nat), (∀ y ∈ ws, isW y) → b.cps.toList.drop p = tokL ws → Toks b (p : Int) ws
  | [], p, _, hd => by
    have hlen := len_drop hd (by decide)
    have e35 : (⟨#[35]⟩ : Str) = Str.ofString "#" := by decide +kernel
    refine .step (.s_hash ((ch_drop hd).trans e35) (find_no hd)) (by omega) ?_ .refl
    rw [hlen]
    show (p : Int) + 1 < ((p + 6 : Nat) : Int)
    omega
  | w :: ws, p, hw, hd => by
    have hwk := hw w (.head _)
    obtain ⟨q, ht, hq⟩ := hwk.tok
    have e : tokL (w :: ws) = (quoteF w).cps.toList ++ (32 :: tokL ws) := by
      rw [tokL, List.flatMap_cons, tokL]
      simp [List.append_assoc]
    rw [e] at hd
    have hlen := len_drop hd (by simp)
    have hq20 := hwk.word.q20
    have hql : (quoteF w).cps.toList.length ≤ 20 := hq20
    have htl : 6 ≤ (tokL ws).length := by rw [tokL, List.length_append]; exact Nat.le_add_left _ _
    have hS := trun_steps _ _ _ _ _ _ _ p (32 :: tokL ws) ht hd (by rw [List.length_cons]; omega) (by rw [List.length_nil]; omega)
    rw [str_of_list] at hS
    have hd2 : b.cps.toList.drop (p + (quoteF w).cps.toList.length) = 32 :: tokL ws := by
      rw [← List.drop_drop, hd, List.drop_left']
      rfl
    have hd3 : b.cps.toList.drop (p + (quoteF w).cps.toList.length + 1) = tokL ws := by
      rw [← List.drop_drop, hd2]
      rfl
    have e32 : (⟨#[32]⟩ : Str) = Str.ofString " " := by decide +kernel
    have hsz : w.length ≤ 4 := hwk.short.1
    rw [List.length_append, List.length_cons] at hlen
    refine ⟨q, _, hS, (ch_drop hd2).trans e32, by omega, by omega, Nat.lt_of_le_of_lt hsz (by decide), ?_, toks_all ws _ (fun y hy => hw y (.tail _ hy)) hd3⟩
    by_cases hz : w.length = 0
    · refine .inr ⟨by rw [hz]; rfl, hq.resolve_right fun h => h ?_⟩
      have : w.cps.toList.length = 0 := hz
      exact List.length_eq_zero_iff.mp this
    · refine .inl ⟨by simpa using hz, ?_⟩
      refine beq_false_of_ne fun e => hz ?_
      rw [e]
      decide +kernel
theorem RowOk.toks {r : List Str} (h : RowOk r) : Toks (joinF r ++ Str.ofString " # it's") 0 r := toks_all r 0 h.w (by rw [List.drop_zero]; exact tok_list h.ne)
theorem sum_le {f : Str → Nat} {b : Nat} : ∀ {ws : List Str}, (∀ y ∈ ws, f y ≤ b) → (ws.map f).sum ≤ ws.length * b
  | [], _ => Nat.zero_le _
  | w :: ws, h => by
    have h1 := sum_le (ws := ws) fun y hy => h y (.tail _ hy)
    have h2 := h w (.head _)
    rw [List.map_cons, List.sum_cons, List.length_cons, Nat.add_mul]
    omega
theorem sp1 : (Str.ofString " ").length = 1 := by decide
theorem RowOk.quoted {r : List Str} (h : RowOk r) : ((r.map quoteF).map (·.length)).sum + (r.map quoteF).length * (Str.ofString " ").length ≤ 16777216 := by
  have h1 := sum_le (f := fun y => (quoteF y).length) (b := 20) fun y hy => (h.w y hy).word.q20
  have h2 := h.len
  rw [List.map_map, List.length_map, sp1]
  show (r.map fun y => (quoteF y).length).sum + _ ≤ _
  omega
theorem RowOk.join {r : List Str} (h : RowOk r) : JoinRow r where
  len := Nat.lt_of_le_of_lt h.len (by decide)
  q := fun y hy => ⟨Nat.lt_of_le_of_lt (h.w y hy).short.1 (by decide), Nat.lt_of_le_of_lt (h.w y hy).word.qq (by decide), fun hne => (h.w y hy).srch hne⟩
  ok := joinOk_of h.quoted
theorem RowOk.same {r : List Str} (h : RowOk r) : r.map spellF = r.map quoteF := List.map_congr_left fun y hy => (h.w y hy).word.same
theorem RowOk.jlen {r : List Str} (h : RowOk r) : (joinF r).length ≤ 1000 := by
  have h1 := join_len (Str.ofString " ") 20 (r.map quoteF) fun y hy => by
    obtain ⟨u, hu, rfl⟩ := List.mem_map.mp hy
    exact (h.w u hu).word.q20
  rw [List.length_map, sp1] at h1
  have h2 := h.len
  show (Txt.join _ _).length ≤ 1000
  omega
theorem RowOk.jok {r : List Str} (h : RowOk r) : PyData.strOk (joinF r) = true := by
  refine (strOk_list _).mpr ?_
  have hq : ∀ y ∈ r.map quoteF, ∀ c ∈ y.cps.toList, c < 0x110000 := fun y hy => by
    obtain ⟨u, hu, rfl⟩ := List.mem_map.mp hy
    exact (strOk_list _).mp (h.w u hu).word.okq
  have hsp : ∀ c ∈ (Str.ofString " ").cps.toList, c < 0x110000 := by decide
  show ∀ c ∈ (Txt.join (Str.ofString " ") (r.map quoteF)).cps.toList, _
  cases e : r.map quoteF with
  | nil => intro c hc; cases hc
  | cons x ws =>
    rw [e] at hq
    rw [join_list]
    intro c hc
    rcases List.mem_append.mp hc with hc | hc
    · exact hq x (.head _) c hc
    · obtain ⟨y, hy, hc⟩ := List.mem_flatMap.mp hc
      rcases List.mem_append.mp hc with hc | hc
      · exact hsp c hc
      · exact hq y (.tail _ hy) c hc
theorem RowOk.spell {r : List Str} (h : RowOk r) : SpellRow r where
  len := Nat.le_trans h.len (by decide)
  short := fun y hy => ⟨Nat.le_trans (h.w y hy).short.1 (by decide), (h.w y hy).short.2⟩
  parts := fun y hy => ⟨Nat.le_trans (h.w y hy).word.p1 (by decide), (h.w y hy).word.p2⟩
  join := by rw [h.same]; exact h.quoted
  same := by rw [h.same]; rfl
  ok := h.jok
theorem RowOk.tape {r : List Str} (h : RowOk r) : TapeRow r where
  len := Nat.le_trans h.len (by decide)
  short := fun y hy => ⟨Nat.le_trans (h.w y hy).short.1 (by decide), (h.w y hy).short.2⟩
theorem RowOk.sok {r : List Str} (h : RowOk r) : ∀ y ∈ r, PyData.strOk y = true := fun y hy => (h.w y hy).word.ok
theorem RowOk.cut {r : List Str} (h : RowOk r) : CutRow r where
  len := by
    have h1 := tape_len r 4 fun y hy => (h.w y hy).short.1
    have h2 := h.len
    omega
  due := fun p _ => read_due r p
  ok := fun p y hy => h.sok y (due_over r p y hy)
theorem RowOk.split {r : List Str} (h : RowOk r) : SplitRow r where
  some_ := h.ne
  short := h.jlen
  toks := h.toks
  len := Nat.le_trans h.len (by decide)
theorem law_rows (ns : List Int) : LawRows (rowsF (ns.take 6)).1 (rowsF (ns.take 6)).2 := by
  obtain ⟨ha, hb, ia, ib⟩ := rows6 ns
  exact {
    ja := ha.join, jb := hb.join, sa := ha.spell, sb := hb.spell, pa := ha.split, pb := hb.split, ta := ha.tape, tb := hb.tape, ca := ha.cut, cb := hb.cut
    ra := read_all _, rb := read_all _, oka := ha.sok, okb := hb.sok
    ne := fun e => ib (by
      have h1 : Str.ofString "it's" ∈ sortT ((rowsF (ns.take 6)).1 ++ (rowsF (ns.take 6)).1) := (sortT_perm _).mem_iff.mpr (List.mem_append_left _ ia)
      rw [e] at h1
      rcases List.mem_append.mp ((sortT_perm _).mem_iff.mp h1) with h | h <;> exact h)
    sld := sld_rows ha.nd hb.nd }
noncomputable def GoodX (c : ClaimW) (cl : Str → Option Addr) (mean : ExcName → Option Value) (args : List WData) (s₁ : Shared) (res : Result) (s' : Shared) : Prop :=
  GoodW c cl mean args s₁ res { s' with gens := #[] } ∧ AllBare s'.gens
theorem post_x {M : Model} {A : Around} {cd : Code} {s s₁ : Shared} {cw : ClaimW} {cl : Str → Option Addr} {mean : ExcName → Option Value} {args : List WData} {tabs : List (Addr × Addr)} (hT : TabsAt tabs s₁.heap) (hr : ∀ a x, cw.raises a x = false)
    (h : codeAny M A cd (fun r s' => GoodX cw cl mean args { s₁ with heap := ghostOf s₁.heap tabs } r s' ∧ GrownAll tabs s'.heap) s) : codeAny M A cd (GoodWG cw cl mean args s₁) s := by
  refine codeAny_mono h ?_
  rintro r s' ⟨⟨⟨hc, hk, hos, _⟩, hg⟩, hgr⟩
  have out : ∀ b o, s₁.heap.get? b = some o → b ∉ tabs.map (·.2) → s'.heap.get? b = some o := fun b o e hb => hk b o (ghost_ne e hb)
  have inn : ∀ b o, s₁.heap.get? b = some o → b ∈ tabs.map (·.2) → isCodeTable s₁.heap b ∧ o = tabObj #[] ∧ ∃ ps, s'.heap.get? b = some (tabObj ps) := by
    intro b o e hb
    obtain ⟨q, hq, rfl⟩ := List.mem_map.mp hb
    obtain ⟨t1, t2⟩ := hT q hq
    have e2 : o = tabObj #[] := Option.some.inj (e.symm.trans t2)
    exact ⟨(t1.tab t2).isCodeTable, e2, hgr.get q hq⟩
  refine ⟨?_, ⟨fun b o e => ?_, fun b o e => ?_⟩, hos, hg⟩
  · rcases hc with ⟨v, d, as, r1, r2, r3, r4, r5⟩ | ⟨e, ob, x, _, _, _, r4, _⟩
    · refine .inl ⟨v, d, as, r1, r2, r3, r4, fun q => ⟨(r5 q).1, fun a ha => ?_⟩⟩
      have z := (r5 q).2 a ha
      cases q1 : s₁.heap.get? a with
      | none => rfl
      | some o =>
        rcases Classical.em (a ∈ tabs.map (·.2)) with hb | hb
        · obtain ⟨_, _, ps, hP⟩ := inn a o q1 hb
          exact absurd ha (readsW_apart (h := s'.heap) hP rfl r3)
        · rw [show (ghostOf s₁.heap tabs).get? a = some o from ghost_ne q1 hb] at z
          cases z
    · exact absurd (hr _ _ ▸ r4) Bool.false_ne_true
  · rcases Classical.em (b ∈ tabs.map (·.2)) with hb | hb
    · obtain ⟨ht, rfl, ps, hP⟩ := inn b o e hb
      exact .inr (.inl ⟨ht, rfl, #[], ps, rfl, by rw [Array.empty_append]; exact hP⟩)
    · exact .inl (out b o e hb)
  · rcases Classical.em (b ∈ tabs.map (·.2)) with hb | hb
    · obtain ⟨_, _, ps, hP⟩ := inn b o e hb
      exact ⟨_, hP⟩
    · exact ⟨o, out b o e hb⟩
theorem fr_bindL {g h g2 : Heap} {L l : Addr} {its : Array Value} (_L9 : g2.IsList l its) {k : Str → Option NameKind} {ls : List (Str × Value)} {x : Str} {m : Str → Option Value} (F : Fr g L h (bindL k ls m)) (e : ls = [(x, .ref l)]) (hk : k x = some .local) : Fr g L h (fun y => if y = x then some (.ref l) else m y) := by
  subst e
  unfold bindL bindL at F
  rw [if_pos hk] at F
  exact F
theorem law0 : WalkO q0 loose0 (XL q0 []) (kmHook K kAs (fun _ => rfl) [760, 797]).says row0
    ⟨"law", fnP [40], fnB [40], fnS [40], (match fnAt pw.main.body [40] with | .FunctionDef _ _ _ _ _ _ _ _ _ p => p | _ => default)⟩ [] fun f vs => PySem.call f vs := by
  k_fill
  intro w s₀ s₁ mg mb G Y fa o pm cd doc dV kV ho hd hcd hD hmg hg args vals as hpre hlay hrd hwl hlo
  have KX := km_in_of Y
  have hT8 := km_tabs_of Y
  have X := (Ground.X G).1
  have V := (Ground.X G).2
  refine Ground.open G ?_
  intro T B D TE TW
  have hT9 : TabsAt [(764, 760), (801, 797)] s₁.heap := List.forall_mem_cons.mpr ⟨⟨codeHd_of_K (c := 764) (P := 760) KX (by kernel_rfl), hT8 760 (.head _)⟩, List.forall_mem_cons.mpr ⟨⟨codeHd_of_K (c := 801) (P := 797) KX (by kernel_rfl), hT8 797 (.tail _ (.head _))⟩, fun _ h => nomatch h⟩⟩
  clear hmg
  wrow_args hpre hlay hrd hwl hlo
  all_goals refine enter_call ?_
  all_goals w_top on
  all_goals refine post_x hT9 (fun _ _ => rfl) ?_
  all_goals w_call any ho hd hcd hD T F
  all_goals clear hd
  all_goals kn_ghosts F T
  all_goals k_drop
  rename Below callerA _ _ _ => KB
  rename Top _ _ _ _ _ (ghostOf _ _) => T9
  rename (K _).In (ghostOf _ _) => X9
  rename Fr _ _ _ _ => F9
  rename News _ _ _ _ => N9
  rename Heap.IsList (ghostOf _ _) _ _ => L9
  rename IntsAre _ _ => I9
  rename ¬ ((63 : Nat) : Int) < _ => H9
  replace F9 := fr_bindL (x := Str.ofString "script") L9 F9 (by kernel_rfl) (by kernel_rfl)
  refine law_core (p := topProg) (Q := fun f s' => _) (by assumption) KB F9 X9 N9 T9 ⟨X9, T9⟩ ?g1 ?g2 ?g4 L9 I9 ?g5 (law_rows _) ?g6 ?g7 ?g8 ?g9
  case g1 => rename 760 < _ ∧ _ => l9; exact Nat.ne_of_lt (Nat.lt_succ_of_lt l9.1)
  case g2 => rename 760 < _ ∧ _ => l9; exact Nat.ne_of_lt (Nat.lt_succ_of_lt l9.2)
  case g4 => rename Obj.data _ = .cell (bindC _ _ _ _) => d9; exact d9.trans (by kernel_rfl)
  case g5 => have := I9.length; omega
  case g6 => exact AllBare.of_eq hg
  case g7 => decide +kernel
  case g8 => decide +kernel
  case g9 =>
    intro s' m' nw' F' N' h760 h797 hg' ho'
    obtain ⟨ps1, hp1⟩ := h760
    obtain ⟨ps2, hp2⟩ := h797
    refine ⟨⟨⟨.inl ⟨.bool true, .bool true, [], rfl, fun _ => rfl, .bool true, ?_, fun _ => ⟨.nil, fun _ h => nomatch h⟩⟩, fun b o e => F'.keep b o e, ho', rfl⟩, hg'⟩, ⟨⟨_, (N' _ hp1).1⟩, ⟨_, (N' _ hp2).1⟩, trivial⟩⟩
    first | rfl | kernel_rfl
end
end
set_option maxHeartbeats 0 in
theorem my_head (walk : WalkO q0 loose0 (XL q0 []) (kmHook K kAs (fun _ => rfl) [760, 797]).says row0
    ⟨"law", fnP [40], fnB [40], fnS [40], (match fnAt pw.main.body [40] with | .FunctionDef _ _ _ _ _ _ _ _ _ p => p | _ => default)⟩ [] fun f vs => PySem.call f vs) : PySem.Challenge.rw_in0077_01.Holds := by
  w_on
  refine holds_law said0 fun said => ?_
  refine holds_open (q := q0) (loose := loose0) (Xt := Xt0) (XP := XL q0 []) (Yf := kObs) (Ya := kVal) (YP := (kmHook K kAs (fun _ => rfl) [760, 797]).says) (N := 12000) left0 (Hook.of (kmHook K kAs (fun _ => rfl) [760, 797])) (Hook.keeps (kmHook K kAs (fun _ => rfl) [760, 797])) (fun s e => xl_of s (Bool.and_eq_true_iff.mp e).1) XL.keeps ?h1 ?h2 ?h3 (fun s e => recFacts_of (Bool.and_eq_true_iff.mp e).2) ?h4 ?h5 ?h6 ⟨rfl, rfl, rfl, rfl, rfl, by decide +kernel⟩ ?hw walk
  case h1 => kernel_rfl
  case h2 => kernel_rfl
  case h3 => kernel_rfl
  case h4 => rfl
  case h5 => first | assumption | decide +kernel
  case h6 => decide +kernel
  case hw => w_witness2
end Mine
theorem PySem.Challenge.cw_in0077_01_holds : PySem.Challenge.rw_in0077_01.Holds :=
  Mine.my_head Mine.law0
