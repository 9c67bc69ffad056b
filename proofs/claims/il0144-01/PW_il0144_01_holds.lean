import PyProof.Rows.All
import Wide.All
import OpenK.AllK
import Wide.FinOn
import PySem.Challenge.RW_il0144_01
open PySem PySem.W PyProof.Rows PySem.Calls
set_option Elab.async false
set_option maxRecDepth 100000
set_option maxHeartbeats 8000000
namespace Mine
/-- the top's run over a tree of objects, its step and its guard given -/
def topRunG (st : SharedT → Thread → Option (SharedT × Thread)) (ok : Thread → Bool) : Nat → SharedT → Thread → Option SharedT
  | 0, _, _ => none
  | n + 1, s, t => match through t with
    | true => some s
    | false => match ok t with
      | false => none
      | true => match st s t with
        | some (s', t') => topRunG st ok n s' t'
        | none => none
theorem topRunG_of {tb : String → Option Builtin} {p : Program} {w : World} {n₀ : Nat} {ann : Option Value} : ∀ {n : Nat} {s s' : SharedT} {t : Thread}, topRunG (stepT (denote tb) p w) (stepOk n₀ ann) n s t = some s' → topRun tb p w n₀ ann n s.abs t = some s'.abs
  | 0, _, _, _, h => by cases h
  | n + 1, s, s', t, h => by
    unfold topRunG at h
    unfold topRun
    cases he : through t with
    | true => rw [he] at h; cases h; rfl
    | false =>
      rw [he] at h
      cases hk : stepOk n₀ ann t with
      | false => rw [hk] at h; cases h
      | true =>
        rw [hk] at h
        cases hs : stepT (denote tb) p w s t with
        | none => rw [hs] at h; cases h
        | some r => obtain ⟨s₂, t₂⟩ := r; rw [hs] at h; rw [stepT_spec hs]; exact topRunG_of h
def treeOf? : List Obj → Nat → BT → Option BT
  | [], _, t => some t
  | o :: r, i, t => match ((t.ins i o).get i).isSome with
    | true => treeOf? r (i + 1) (t.ins i o)
    | false => none
theorem treeOf_abs {life : Life} : ∀ {l : List Obj} {i : Nat} {t t' : BT}, treeOf? l i t = some t' → (absHeap t' (i + l.length) life).objs.toList = (absHeap t i life).objs.toList ++ l
  | [], i, t, t', h => by cases h; simp
  | o :: r, i, t, t', h => by
    unfold treeOf? at h
    cases hg : ((t.ins i o).get i).isSome with
    | false => rw [hg] at h; cases h
    | true =>
      rw [hg] at h
      have e := treeOf_abs (life := life) h
      rw [List.length_cons, show i + (r.length + 1) = i + 1 + r.length by omega, e, absHeap_ins hg]
      simp [Heap.push]
theorem tree_abs {h : Heap} {t : BT} (e : treeOf? h.objs.toList 0 .nil = some t) : absHeap t h.objs.size h.life = h := by
  have q := treeOf_abs (life := h.life) e
  rw [Nat.zero_add, Array.length_toList] at q
  obtain ⟨objs, life⟩ := h
  show absHeap t objs.size life = ⟨objs, life⟩
  have q' : (absHeap t objs.size life).objs = objs := Array.toList_inj.mp (q.trans (by simp [absHeap, BT.list]))
  exact congrArg (Heap.mk · life) q'
/-- what stands at an address of the tree -/
def seesT (s : SharedT) (a : Nat) : Option Obj := match Nat.blt a s.n with
  | true => match s.tree.get a with
    | some o => alive o
    | none => none
  | false => none
theorem seesT_some {s : SharedT} {a : Nat} {o : Obj} (h : seesT s a = some o) : s.abs.heap.get? a = some o := by
  unfold seesT at h
  cases hb : Nat.blt a s.n with
  | false => rw [hb] at h; cases h
  | true =>
    rw [hb] at h
    cases hg : s.tree.get a with
    | none => rw [hg] at h; cases h
    | some x =>
      rw [hg] at h
      exact (abs_get (Nat.blt_eq.mp hb) hg).trans h
theorem sees_all {f g : Nat → Option Obj} (hfg : ∀ a o, f a = some o → g a = some o) : ∀ {as : List Nat} {ks : List (Nat × Obj)}, as.map f = ks.map (fun p => some p.2) → as.map g = ks.map (fun p => some p.2)
  | [], [], _ => rfl
  | [], _ :: _, h => by cases h
  | _ :: _, [], h => by cases h
  | a :: as, k :: ks, h => by
    have h1 : f a = some k.2 := (List.cons.inj h).1
    have h2 : as.map f = ks.map (fun p => some p.2) := (List.cons.inj h).2
    show g a :: as.map g = some k.2 :: ks.map (fun p => some p.2)
    rw [hfg a _ h1, sees_all hfg h2]
def leftG {γ : Type} (fo : Option Shared) (st : SharedT → Thread → Option (SharedT × Thread)) (ok : Nat → Option Value → Thread → Bool) (chk : Heap → Shared → Bool) (F : SharedT → γ) (N : Nat) (stub : Thread) : Option γ :=
  fo.bind fun s₀ => match s₀.heap.isNs mainGlobals && s₀.gens.size == 0 with
  | true => (treeOf? s₀.heap.objs.toList 0 .nil).bind fun t => (topRunG st (ok s₀.heap.objs.size (s₀.heap.nsMap mainGlobals "__annotations__")) N ⟨t, s₀.heap.objs.size, s₀.heap.life, s₀.gens, s₀.drawn, s₀.toks, s₀.os⟩ stub).bind fun s₁ => match chk s₀.heap s₁.abs with
    | true => some (F s₁)
    | false => none
  | false => none
def chkOf (p : Program) (h₀ : Heap) (s₁ : Shared) : Bool := staticsOk (importedModules p.main.body) h₀ s₁.heap && namesBound p s₁.heap && gensDone s₁ && laidKept h₀ s₁.heap
theorem leftG_of {β γ : Type} {p : Program} {w : World} {N : Nat} {F : Shared → β} {F' : SharedT → γ} {g : β} {g' : γ} {fo : Option Shared} {st : SharedT → Thread → Option (SharedT × Thread)} {ok : Nat → Option Value → Thread → Bool} {chk : Heap → Shared → Bool}
    (h1 : fencedOpening treeTable p w N = fo) (h2 : stepT (denote treeTable) p w = st) (h3 : stepOk = ok) (h4 : chkOf p = chk) (h5 : ∀ s, F' s = g' → F s.abs = g) (h : leftG fo st ok chk F' N (topStub p) = some g') : (openEnds treeTable p w N).map F = some g := by
  subst h1 h2 h3 h4
  obtain ⟨s₀, e0, h⟩ := Option.bind_eq_some_iff.mp h
  unfold openEnds
  rw [e0]
  show (topFrom treeTable p w N s₀).map F = some g
  unfold topFrom
  cases hg : (s₀.heap.isNs mainGlobals && s₀.gens.size == 0) with
  | false => rw [hg] at h; cases h
  | true =>
    rw [hg] at h
    obtain ⟨t, e1, h⟩ := Option.bind_eq_some_iff.mp h
    obtain ⟨s₁, e2, h⟩ := Option.bind_eq_some_iff.mp h
    have e3 := topRunG_of e2
    have e4 : SharedT.abs ⟨t, s₀.heap.objs.size, s₀.heap.life, s₀.gens, s₀.drawn, s₀.toks, s₀.os⟩ = s₀ := by
      show Shared.mk (absHeap t s₀.heap.objs.size s₀.heap.life) _ _ _ _ = s₀
      rw [tree_abs e1]
    rw [e4] at e3
    show ((topRun treeTable p w s₀.heap.objs.size (s₀.heap.nsMap mainGlobals "__annotations__") N s₀ (topStub p)).bind _).map F = some g
    rw [e3]
    show (match chkOf p s₀.heap s₁.abs with | true => some s₁.abs | false => none).map F = some g
    cases hc : chkOf p s₀.heap s₁.abs with
    | false => rw [hc] at h; cases h
    | true => rw [hc] at h; exact congrArg some (h5 s₁ (Option.some.inj h))
def stFn : Stmt → Option (PySem.Str × Arguments × List Stmt × Scope)
  | .FunctionDef n a b _ _ _ s _ _ _ => some (n, a, b, s)
  | _ => none
def stNth : List Stmt → Nat → Option Stmt
  | [], _ => none
  | s :: _, 0 => some s
  | _ :: r, n + 1 => stNth r n
def stTop (i : Nat) : Option (PySem.Str × Arguments × List Stmt × Scope) := match stNth PySem.Challenge.pw_il0144_01.main.body i with
  | some s => stFn s
  | none => none
def stIn (i j : Nat) : Option (PySem.Str × Arguments × List Stmt × Scope) := match stNth PySem.Challenge.pw_il0144_01.main.body i with
  | some (.ClassDef _ _ _ b _ _ _ _ _ _ _) => match stNth b j with
    | some s => stFn s
    | none => none
  | _ => none
/-- the heap behind the top, as far as the call reaches it; the functions' parts are read off the program's own statements -/
noncomputable def hd.heap_0 : Params → Frag :=
  (fun (n44 : PySem.Str) (a44 : Arguments) (b44 : List Stmt) (s44 : Scope) (_ : stTop 2 = some (n44, a44, b44, s44)) =>
   fun (n51 : PySem.Str) (a51 : Arguments) (b51 : List Stmt) (s51 : Scope) (_ : stTop 4 = some (n51, a51, b51, s51)) =>
   fun (n63 : PySem.Str) (a63 : Arguments) (b63 : List Stmt) (s63 : Scope) (_ : stTop 7 = some (n63, a63, b63, s63)) =>
   fun (n70 : PySem.Str) (a70 : Arguments) (b70 : List Stmt) (s70 : Scope) (_ : stTop 8 = some (n70, a70, b70, s70)) =>
   fun (n97 : PySem.Str) (a97 : Arguments) (b97 : List Stmt) (s97 : Scope) (_ : stIn 10 1 = some (n97, a97, b97, s97)) =>
   fun (n374 : PySem.Str) (a374 : Arguments) (b374 : List Stmt) (s374 : Scope) (_ : stIn 14 1 = some (n374, a374, b374, s374)) =>
   fun (n381 : PySem.Str) (a381 : Arguments) (b381 : List Stmt) (s381 : Scope) (_ : stIn 14 2 = some (n381, a381, b381, s381)) =>
   fun (n388 : PySem.Str) (a388 : Arguments) (b388 : List Stmt) (s388 : Scope) (_ : stIn 14 3 = some (n388, a388, b388, s388)) =>
   fun (n395 : PySem.Str) (a395 : Arguments) (b395 : List Stmt) (s395 : Scope) (_ : stIn 14 4 = some (n395, a395, b395, s395)) =>
   fun (n402 : PySem.Str) (a402 : Arguments) (b402 : List Stmt) (s402 : Scope) (_ : stIn 14 5 = some (n402, a402, b402, s402)) =>
   fun (n550 : PySem.Str) (a550 : Arguments) (b550 : List Stmt) (s550 : Scope) (_ : stIn 14 25 = some (n550, a550, b550, s550)) =>
   fun (n558 : PySem.Str) (a558 : Arguments) (b558 : List Stmt) (s558 : Scope) (_ : stIn 14 26 = some (n558, a558, b558, s558)) =>
   fun (n663 : PySem.Str) (a663 : Arguments) (b663 : List Stmt) (s663 : Scope) (_ : stIn 24 0 = some (n663, a663, b663, s663)) =>
   fun (n670 : PySem.Str) (a670 : Arguments) (b670 : List Stmt) (s670 : Scope) (_ : stIn 24 1 = some (n670, a670, b670, s670)) =>
   fun (n678 : PySem.Str) (a678 : Arguments) (b678 : List Stmt) (s678 : Scope) (_ : stIn 24 2 = some (n678, a678, b678, s678)) =>
   fun (n686 : PySem.Str) (a686 : Arguments) (b686 : List Stmt) (s686 : Scope) (_ : stIn 24 3 = some (n686, a686, b686, s686)) =>
   fun (n693 : PySem.Str) (a693 : Arguments) (b693 : List Stmt) (s693 : Scope) (_ : stIn 24 4 = some (n693, a693, b693, s693)) =>
   fun (n700 : PySem.Str) (a700 : Arguments) (b700 : List Stmt) (s700 : Scope) (_ : stIn 24 5 = some (n700, a700, b700, s700)) =>
   fun (n707 : PySem.Str) (a707 : Arguments) (b707 : List Stmt) (s707 : Scope) (_ : stIn 24 6 = some (n707, a707, b707, s707)) =>
   fun (n714 : PySem.Str) (a714 : Arguments) (b714 : List Stmt) (s714 : Scope) (_ : stIn 24 7 = some (n714, a714, b714, s714)) =>
   fun (n722 : PySem.Str) (a722 : Arguments) (b722 : List Stmt) (s722 : Scope) (_ : stIn 24 8 = some (n722, a722, b722, s722)) =>
   fun (n729 : PySem.Str) (a729 : Arguments) (b729 : List Stmt) (s729 : Scope) (_ : stIn 24 9 = some (n729, a729, b729, s729)) =>
   fun (n736 : PySem.Str) (a736 : Arguments) (b736 : List Stmt) (s736 : Scope) (_ : stIn 24 10 = some (n736, a736, b736, s736)) =>
   fun (n751 : PySem.Str) (a751 : Arguments) (b751 : List Stmt) (s751 : Scope) (_ : stTop 25 = some (n751, a751, b751, s751)) =>
   fun (n758 : PySem.Str) (a758 : Arguments) (b758 : List Stmt) (s758 : Scope) (_ : stTop 26 = some (n758, a758, b758, s758)) =>
   fun (n766 : PySem.Str) (a766 : Arguments) (b766 : List Stmt) (s766 : Scope) (_ : stTop 29 = some (n766, a766, b766, s766)) =>
   fun (n773 : PySem.Str) (a773 : Arguments) (b773 : List Stmt) (s773 : Scope) (_ : stTop 31 = some (n773, a773, b773, s773)) =>
   fun (n778 : PySem.Str) (a778 : Arguments) (b778 : List Stmt) (s778 : Scope) (_ : stTop 32 = some (n778, a778, b778, s778)) =>
   fun (n783 : PySem.Str) (a783 : Arguments) (b783 : List Stmt) (s783 : Scope) (_ : stTop 33 = some (n783, a783, b783, s783)) =>
   fun (n790 : PySem.Str) (a790 : Arguments) (b790 : List Stmt) (s790 : Scope) (_ : stTop 34 = some (n790, a790, b790, s790)) =>
   fun (n797 : PySem.Str) (a797 : Arguments) (b797 : List Stmt) (s797 : Scope) (_ : stTop 35 = some (n797, a797, b797, s797)) =>
   fun (n804 : PySem.Str) (a804 : Arguments) (b804 : List Stmt) (s804 : Scope) (_ : stTop 36 = some (n804, a804, b804, s804)) =>
   by
    intro P
    refine List.cons ((nat_lit 2), ⟨.none, none, (.dict (List.toArray [⟨(PySem.PyData.keyHash P (.ofString "i\x6dport.loaded._sre")), (.str (.ofString "i\x6dport.loaded._sre") 183), (.bool true)⟩, ⟨(PySem.PyData.keyHash P (.ofString "class._frozen_i\x6dportlib.BuiltinImporter")), (.str (.ofString "class._frozen_i\x6dportlib.BuiltinImporter") 185), (.ref 14)⟩, ⟨(PySem.PyData.keyHash P (.ofString "watched.i\x6dport")), (.str (.ofString "watched.i\x6dport") 206), (.ref 18)⟩, ⟨(PySem.PyData.keyHash P (.ofString "class._frozen_i\x6dportlib.ModuleSpec")), (.str (.ofString "class._frozen_i\x6dportlib.ModuleSpec") 216), (.ref 22)⟩, ⟨(PySem.PyData.keyHash P (.ofString "sys.modules.booked-epoch")), (.str (.ofString "sys.modules.booked-epoch") 245), (.int 4 0)⟩, ⟨(PySem.PyData.keyHash P (.ofString "i\x6dport.later-laid._sre")), (.str (.ofString "i\x6dport.later-laid._sre") 270), (.bool true)⟩, ⟨(PySem.PyData.keyHash P (.ofString "watched.library")), (.str (.ofString "watched.library") 272), (.ref 27)⟩, ⟨(PySem.PyData.keyHash P (.ofString "watched.library-objects")), (.str (.ofString "watched.library-objects") 0), (.str (.ofString "\x0c\x1e") 0)⟩, ⟨(PySem.PyData.keyHash P (.ofString "watched.library-deep._sre")), (.str (.ofString "watched.library-deep._sre") 273), (.str (.ofString "\x04\x00\x00\x0b\x04\x00\x00\x0b\x04\x00\x00\x03\x04\x00\x00\x0b\x08\x04dict\x02") 0)⟩, ⟨(PySem.PyData.keyHash P (.ofString "i\x6dport.loaded._collections")), (.str (.ofString "i\x6dport.loaded._collections") 280), (.bool true)⟩, ⟨(PySem.PyData.keyHash P (.ofString "sys.modules.landed._collections")), (.str (.ofString "sys.modules.landed._collections") 294), (.bool true)⟩, ⟨(PySem.PyData.keyHash P (.ofString "i\x6dport.later-laid._collections")), (.str (.ofString "i\x6dport.later-laid._collections") 309), (.bool true)⟩, ⟨(PySem.PyData.keyHash P (.ofString "watched.library-deep._collections")), (.str (.ofString "watched.library-deep._collections") 311), (.str (.ofString "\x04\x00\x00\x1d\x04\x00\x00\x1d\x04\x00\x00\x03\x04\x00\x00\x1d\x08\x04dict\x02") 0)⟩, ⟨(PySem.PyData.keyHash P (.ofString "type.__subclasses__.OSError.0")), (.str (.ofString "type.__subclasses__.OSError.0") 419), (.int 80 0)⟩, ⟨(PySem.PyData.keyHash P (.ofString "type.__subclasses__.OSError.n")), (.str (.ofString "type.__subclasses__.OSError.n") 420), (.int 1 0)⟩]) 15), (List.toArray [])⟩) ?_
    refine List.cons ((nat_lit 3), ⟨(.type "dict"), none, (.dict (List.toArray (⟨(PySem.PyData.keyHash P (.ofString "__name__")), (.str (.ofString "__name__") 165), (.str (.ofString "law_il0144_01") 1267)⟩ :: ⟨(PySem.PyData.keyHash P (.ofString "__doc__")), (.str (.ofString "__doc__") 166), .none⟩ :: ⟨(PySem.PyData.keyHash P (.ofString "__package__")), (.str (.ofString "__package__") 167), .none⟩ :: ⟨(PySem.PyData.keyHash P (.ofString "__loader__")), (.str (.ofString "__loader__") 168), (.builtin "__main__.__loader__#opaque")⟩ :: ⟨(PySem.PyData.keyHash P (.ofString "__spec__")), (.str (.ofString "__spec__") 169), .none⟩ :: ⟨(PySem.PyData.keyHash P (.ofString "__annotations__")), (.str (.ofString "__annotations__") 170), (.ref 6)⟩ :: ⟨(PySem.PyData.keyHash P (.ofString "__builtins__")), (.str (.ofString "__builtins__") 171), (.ref 4)⟩ :: ⟨(PySem.PyData.keyHash P (.ofString "__file__")), (.str (.ofString "__file__") 173), (.str (.ofString "/claim/cut.py") 172)⟩ :: ⟨(PySem.PyData.keyHash P (.ofString "__cached__")), (.str (.ofString "__cached__") 174), .none⟩ :: ⟨(PySem.PyData.keyHash P (.ofString "_sre")), (.str (.ofString "_sre") 275), (.ref 12)⟩ :: ⟨(PySem.PyData.keyHash P (.ofString "deque")), (.str (.ofString "deque") 317), (.type "collections.deque")⟩ :: ⟨(PySem.PyData.keyHash P (.ofString "_wall")), (.str (.ofString "_wall") 330), (.ref 44)⟩ :: ⟨(PySem.PyData.keyHash P (.ofString "unorderable_list_difference")), (.str (.ofString "unorderable_list_difference") 342), (.ref 51)⟩ :: ⟨(PySem.PyData.keyHash P (.ofString "_twin_re_1")), (.str (.ofString "_twin_re_1") 382), (.ref 56)⟩ :: ⟨(PySem.PyData.keyHash P (.ofString "_whence")), (.str (.ofString "_whence") 392), (.ref 63)⟩ :: ⟨(PySem.PyData.keyHash P (.ofString "_index")), (.str (.ofString "_index") 400), (.ref 70)⟩ :: ⟨(PySem.PyData.keyHash P (.ofString "UnsupportedOperation")), (.str (.ofString "UnsupportedOperation") 422), (.ref 80)⟩ :: ⟨(PySem.PyData.keyHash P (.ofString "IOBase")), (.str (.ofString "IOBase") 454), (.ref 100)⟩ :: ⟨(PySem.PyData.keyHash P (.ofString "BufferedIOBase")), (.str (.ofString "BufferedIOBase") 472), (.ref 115)⟩ :: ⟨(PySem.PyData.keyHash P (.ofString "TextIOBase")), (.str (.ofString "TextIOBase") 490), (.ref 127)⟩ :: ⟨(PySem.PyData.keyHash P (.ofString "BytesIO")), (.str (.ofString "BytesIO") 752), (.ref 357)⟩ :: ⟨(PySem.PyData.keyHash P (.ofString "StringIO")), (.str (.ofString "StringIO") 1039), (.ref 604)⟩ :: ⟨(PySem.PyData.keyHash P (.ofString "_kind")), (.str (.ofString "_kind") 1050), (.ref 613)⟩ :: ⟨(PySem.PyData.keyHash P (.ofString "_fspath")), (.str (.ofString "_fspath") 1059), (.ref 620)⟩ :: ⟨(PySem.PyData.keyHash P (.ofString "_check_arg_types")), (.str (.ofString "_check_arg_types") 1069), (.ref 627)⟩ :: ⟨(PySem.PyData.keyHash P (.ofString "isabs")), (.str (.ofString "isabs") 1076), (.ref 634)⟩ :: ⟨(PySem.PyData.keyHash P (.ofString "join")), (.str (.ofString "join") 1087), (.ref 758)⟩ :: ⟨(PySem.PyData.keyHash P (.ofString "join_path")), (.str (.ofString "join_path") 1088), (.ref 641)⟩ :: ⟨(PySem.PyData.keyHash P (.ofString "dirname")), (.str (.ofString "dirname") 1098), (.ref 648)⟩ :: ⟨(PySem.PyData.keyHash P (.ofString "shlex")), (.str (.ofString "shlex") 1239), (.ref 739)⟩ :: ⟨(PySem.PyData.keyHash P (.ofString "split")), (.str (.ofString "split") 1249), (.ref 751)⟩ :: ⟨(PySem.PyData.keyHash P (.ofString "join_shlex")), (.str (.ofString "join_shlex") 1257), (.ref 758)⟩ :: ⟨(PySem.PyData.keyHash P (.ofString "_find_unsafe")), (.str (.ofString "_find_unsafe") 1259), (.ref 759)⟩ :: ⟨(PySem.PyData.keyHash P (.ofString "quote")), (.str (.ofString "quote") 1266), (.ref 766)⟩ :: ⟨(PySem.PyData.keyHash P (.ofString "_law_words")), (.str (.ofString "_law_words") 1277), (.ref 773)⟩ :: ⟨(PySem.PyData.keyHash P (.ofString "_law_is_bare")), (.str (.ofString "_law_is_bare") 1283), (.ref 778)⟩ :: ⟨(PySem.PyData.keyHash P (.ofString "_law_tokens")), (.str (.ofString "_law_tokens") 1289), (.ref 783)⟩ :: ⟨(PySem.PyData.keyHash P (.ofString "_law_lacking")), (.str (.ofString "_law_lacking") 1299), (.ref 790)⟩ :: ⟨(PySem.PyData.keyHash P (.ofString "_law_over")), (.str (.ofString "_law_over") 1309), (.ref 797)⟩ :: ⟨(PySem.PyData.keyHash P (.ofString "law")), (.str (.ofString "law") 1327), (.ref 804)⟩ :: [])) 40), (List.toArray [])⟩) ?_
    refine List.cons ((nat_lit 38), ⟨(.type "tuple"), none, (.seq (List.toArray []) 0), (List.toArray [])⟩) ?_
    refine List.cons ((nat_lit 40), ⟨(.type "tuple"), none, (.seq (List.toArray [(.str (.ofString "k") 327)]) 0), (List.toArray [])⟩) ?_
    refine List.cons ((nat_lit 41), ⟨(.type "tuple"), none, (.seq (List.toArray []) 0), (List.toArray [])⟩) ?_
    refine List.cons ((nat_lit 43), ⟨(.type "code"), none, (.fields (List.toArray [(.str (.ofString "_wall") 324), (.str (.ofString "_wall") 325), (.str (.ofString "/claim/cut.py") 326), (.int 3 0), (.int 1 0), (.int 0 0), (.int 0 0), (.int 3 0), (.ref 38), (.bool true), (.int 318 0), (.ref 39), .none, (.ref 40), (.ref 41), (.ref 42), (.int 328 0), (.int 3 0), (.str (.ofString "/claim/cut.py") 329)])), (List.toArray [])⟩) ?_
    refine List.cons ((nat_lit 44), ⟨(.type "function"), none, (.func ⟨n44, (.ofString "_wall"), a44, (.stmts b44), s44, 3, [], .none, .none, .none, (.str (.ofString "__main__") 164), none, (.ref 43), .none, 0⟩), (List.toArray [])⟩) ?_
    refine List.cons ((nat_lit 45), ⟨(.type "tuple"), none, (.seq (List.toArray []) 0), (List.toArray [])⟩) ?_
    refine List.cons ((nat_lit 47), ⟨(.type "tuple"), none, (.seq (List.toArray [(.str (.ofString "expected") 336), (.str (.ofString "actual") 337), (.str (.ofString "missing") 338), (.str (.ofString "item") 339)]) 0), (List.toArray [])⟩) ?_
    refine List.cons ((nat_lit 48), ⟨(.type "tuple"), none, (.seq (List.toArray []) 0), (List.toArray [])⟩) ?_
    refine List.cons ((nat_lit 50), ⟨(.type "code"), none, (.fields (List.toArray [(.str (.ofString "unorderable_list_difference") 333), (.str (.ofString "unorderable_list_difference") 334), (.str (.ofString "/claim/cut.py") 335), (.int 7 0), (.int 2 0), (.int 0 0), (.int 0 0), (.int 3 0), (.ref 45), (.bool true), (.int 318 0), (.ref 46), .none, (.ref 47), (.ref 48), (.ref 49), (.int 340 0), (.int 7 0), (.str (.ofString "/claim/cut.py") 341)])), (List.toArray [])⟩) ?_
    refine List.cons ((nat_lit 51), ⟨(.type "function"), none, (.func ⟨n51, (.ofString "unorderable_list_difference"), a51, (.stmts b51), s51, 3, [], .none, .none, .none, (.str (.ofString "cpy313.unittest.util") 331), none, (.ref 50), .none, 0⟩), (List.toArray [])⟩) ?_
    refine List.cons ((nat_lit 55), ⟨(.type "tuple"), none, (.seq (List.toArray ((.int 14 0) :: (.int 17 0) :: (.int 4 0) :: (.int 1 0) :: (.int 1 0) :: (.int 21 0) :: (.int 9 0) :: (.int 0 0) :: (.int 604043296 0) :: (.int 1 0) :: (.int 0 0) :: (.int 0 0) :: (.int 0 0) :: (.int 0 0) :: (.int 0 0) :: (.int 8 0) :: (.int 4 0) :: (.int 0 0) :: (.int 13 0) :: (.int 14 0) :: (.int 21 0) :: (.int 9 0) :: (.int 0 0) :: (.int 604043296 0) :: (.int 1 0) :: (.int 0 0) :: (.int 0 0) :: (.int 0 0) :: (.int 0 0) :: (.int 0 0) :: (.int 8 0) :: (.int 4 0) :: (.int 0 0) :: (.int 1 0) :: [])) 0), (List.toArray [])⟩) ?_
    refine List.cons ((nat_lit 56), ⟨(.type "re.Pattern"), none, (.fields (List.toArray [(.str (.ofString "[^\\w@%+=:,./-]") 344), (.int 256 381), (.int 0 0), .none, .none, (.ref 55), (.int 0 0)])), (List.toArray [])⟩) ?_
    refine List.cons ((nat_lit 57), ⟨(.type "tuple"), none, (.seq (List.toArray []) 0), (List.toArray [])⟩) ?_
    refine List.cons ((nat_lit 59), ⟨(.type "tuple"), none, (.seq (List.toArray [(.str (.ofString "n") 388), (.str (.ofString "what") 389)]) 0), (List.toArray [])⟩) ?_
    refine List.cons ((nat_lit 60), ⟨(.type "tuple"), none, (.seq (List.toArray []) 0), (List.toArray [])⟩) ?_
    refine List.cons ((nat_lit 62), ⟨(.type "code"), none, (.fields (List.toArray [(.str (.ofString "_whence") 385), (.str (.ofString "_whence") 386), (.str (.ofString "/claim/cut.py") 387), (.int 18 0), (.int 2 0), (.int 0 0), (.int 0 0), (.int 3 0), (.ref 57), (.bool true), (.int 318 0), (.ref 58), .none, (.ref 59), (.ref 60), (.ref 61), (.int 390 0), (.int 18 0), (.str (.ofString "/claim/cut.py") 391)])), (List.toArray [])⟩) ?_
    refine List.cons ((nat_lit 63), ⟨(.type "function"), none, (.func ⟨n63, (.ofString "_whence"), a63, (.stmts b63), s63, 3, [], .none, .none, .none, (.str (.ofString "io") 383), none, (.ref 62), .none, 0⟩), (List.toArray [])⟩) ?_
    refine List.cons ((nat_lit 64), ⟨(.type "tuple"), none, (.seq (List.toArray []) 0), (List.toArray [])⟩) ?_
    refine List.cons ((nat_lit 66), ⟨(.type "tuple"), none, (.seq (List.toArray [(.str (.ofString "n") 396), (.str (.ofString "what") 397)]) 0), (List.toArray [])⟩) ?_
    refine List.cons ((nat_lit 67), ⟨(.type "tuple"), none, (.seq (List.toArray []) 0), (List.toArray [])⟩) ?_
    refine List.cons ((nat_lit 69), ⟨(.type "code"), none, (.fields (List.toArray [(.str (.ofString "_index") 393), (.str (.ofString "_index") 394), (.str (.ofString "/claim/cut.py") 395), (.int 23 0), (.int 2 0), (.int 0 0), (.int 0 0), (.int 3 0), (.ref 64), (.bool true), (.int 318 0), (.ref 65), .none, (.ref 66), (.ref 67), (.ref 68), (.int 398 0), (.int 23 0), (.str (.ofString "/claim/cut.py") 399)])), (List.toArray [])⟩) ?_
    refine List.cons ((nat_lit 70), ⟨(.type "function"), none, (.func ⟨n70, (.ofString "_index"), a70, (.stmts b70), s70, 3, [], .none, .none, .none, (.str (.ofString "io") 383), none, (.ref 69), .none, 0⟩), (List.toArray [])⟩) ?_
    refine List.cons ((nat_lit 71), ⟨(.type "tuple"), none, (.seq (List.toArray [(.type "OSError"), (.type "ValueError")]) 0), (List.toArray [])⟩) ?_
    refine List.cons ((nat_lit 78), ⟨(.type "tuple"), none, (.seq (List.toArray []) 0), (List.toArray [])⟩) ?_
    refine List.cons ((nat_lit 79), ⟨(.type "dict"), none, (.dict (List.toArray [⟨(PySem.PyData.keyHash P (.ofString "__module__")), (.str (.ofString "__module__") 408), (.str (.ofString "io") 413)⟩, ⟨(PySem.PyData.keyHash P (.ofString "__firstlineno__")), (.str (.ofString "__firstlineno__") 412), (.int 30 411)⟩, ⟨(PySem.PyData.keyHash P (.ofString "__static_attributes__")), (.str (.ofString "__static_attributes__") 415), (.ref 78)⟩, ⟨(PySem.PyData.keyHash P (.ofString "__weakref__")), (.str (.ofString "__weakref__") 417), (.ref 81)⟩, ⟨(PySem.PyData.keyHash P (.ofString "__doc__")), (.str (.ofString "__doc__") 418), .none⟩]) 3), (List.toArray [])⟩) ?_
    refine List.cons ((nat_lit 80), ⟨(.type "type"), none, (.cls ⟨(.ofString "UnsupportedOperation"), [(.type "OSError"), (.type "ValueError")], [(.ref 80), (.type "OSError"), (.type "ValueError"), (.type "Exception"), (.type "BaseException"), (.type "object")], 79, (.ofString "UnsupportedOperation"), true, [], [], false, none, false⟩), (List.toArray [(some (.ref 71)), none, (some (.str (.ofString "UnsupportedOperation") 401)), (some (.str (.ofString "UnsupportedOperation") 409)), (some (.builtin "OSError.__new__")), (some (.bool true))])⟩) ?_
    refine List.cons ((nat_lit 81), ⟨(.type "getset_descriptor"), none, (.fields (List.toArray [(.str (.ofString "__weakref__") 416), (.ref 80), (.builtin "ExceptionGroup.__weakref__"), .none])), (List.toArray [])⟩) ?_
    refine List.cons ((nat_lit 91), ⟨(.type "tuple"), none, (.seq (List.toArray []) 0), (List.toArray [])⟩) ?_
    refine List.cons ((nat_lit 93), ⟨(.type "tuple"), none, (.seq (List.toArray [(.str (.ofString "cls") 440), (.str (.ofString "args") 441), (.str (.ofString "kwargs") 442)]) 0), (List.toArray [])⟩) ?_
    refine List.cons ((nat_lit 94), ⟨(.type "tuple"), none, (.seq (List.toArray []) 0), (List.toArray [])⟩) ?_
    refine List.cons ((nat_lit 96), ⟨(.type "code"), none, (.fields (List.toArray [(.str (.ofString "__new__") 437), (.str (.ofString "IOBase.__new__") 438), (.str (.ofString "/claim/cut.py") 439), (.int 35 0), (.int 1 0), (.int 1 0), (.int 0 0), (.int 15 0), (.ref 91), (.bool true), (.int 318 0), (.ref 92), .none, (.ref 93), (.ref 94), (.ref 95), (.int 443 0), (.int 35 0), (.str (.ofString "/claim/cut.py") 444)])), (List.toArray [])⟩) ?_
    refine List.cons ((nat_lit 97), ⟨(.type "function"), none, (.func ⟨n97, (.ofString "IOBase.__new__"), a97, (.stmts b97), s97, 3, [], .none, .none, .none, (.str (.ofString "io") 383), none, (.ref 96), .none, 0⟩), (List.toArray [])⟩) ?_
    refine List.cons ((nat_lit 98), ⟨(.type "tuple"), none, (.seq (List.toArray []) 0), (List.toArray [])⟩) ?_
    refine List.cons ((nat_lit 99), ⟨(.type "dict"), none, (.dict (List.toArray [⟨(PySem.PyData.keyHash P (.ofString "__module__")), (.str (.ofString "__module__") 430), (.str (.ofString "io") 435)⟩, ⟨(PySem.PyData.keyHash P (.ofString "__firstlineno__")), (.str (.ofString "__firstlineno__") 434), (.int 32 433)⟩, ⟨(PySem.PyData.keyHash P (.ofString "__new__")), (.str (.ofString "__new__") 445), (.ref 101)⟩, ⟨(PySem.PyData.keyHash P (.ofString "__static_attributes__")), (.str (.ofString "__static_attributes__") 446), (.ref 98)⟩, ⟨(PySem.PyData.keyHash P (.ofString "__dict__")), (.str (.ofString "__dict__") 449), (.ref 102)⟩, ⟨(PySem.PyData.keyHash P (.ofString "__weakref__")), (.str (.ofString "__weakref__") 451), (.ref 103)⟩, ⟨(PySem.PyData.keyHash P (.ofString "__doc__")), (.str (.ofString "__doc__") 452), .none⟩]) 4), (List.toArray [])⟩) ?_
    refine List.cons ((nat_lit 100), ⟨(.type "type"), none, (.cls ⟨(.ofString "IOBase"), [(.type "object")], [(.ref 100), (.type "object")], 99, (.ofString "IOBase"), true, [], [(.ref 115), (.ref 127)], false, none, false⟩), (List.toArray [none, none, (some (.str (.ofString "IOBase") 423)), (some (.str (.ofString "IOBase") 431)), (some .none), (some (.bool true))])⟩) ?_
    refine List.cons ((nat_lit 101), ⟨(.type "staticmethod"), none, (.fields (List.toArray [(.ref 97)])), (List.toArray [])⟩) ?_
    refine List.cons ((nat_lit 102), ⟨(.type "getset_descriptor"), none, (.fields (List.toArray [(.str (.ofString "__dict__") 448), (.ref 100), (.builtin "function.__dict__"), (.builtin "function.__dict__#set")])), (List.toArray [])⟩) ?_
    refine List.cons ((nat_lit 103), ⟨(.type "getset_descriptor"), none, (.fields (List.toArray [(.str (.ofString "__weakref__") 450), (.ref 100), (.builtin "ExceptionGroup.__weakref__"), .none])), (List.toArray [])⟩) ?_
    refine List.cons ((nat_lit 106), ⟨(.type "tuple"), none, (.seq (List.toArray [(.ref 100)]) 0), (List.toArray [])⟩) ?_
    refine List.cons ((nat_lit 113), ⟨(.type "tuple"), none, (.seq (List.toArray []) 0), (List.toArray [])⟩) ?_
    refine List.cons ((nat_lit 114), ⟨(.type "dict"), none, (.dict (List.toArray [⟨(PySem.PyData.keyHash P (.ofString "__module__")), (.str (.ofString "__module__") 462), (.str (.ofString "io") 467)⟩, ⟨(PySem.PyData.keyHash P (.ofString "__firstlineno__")), (.str (.ofString "__firstlineno__") 466), (.int 39 465)⟩, ⟨(PySem.PyData.keyHash P (.ofString "__static_attributes__")), (.str (.ofString "__static_attributes__") 469), (.ref 113)⟩, ⟨(PySem.PyData.keyHash P (.ofString "__doc__")), (.str (.ofString "__doc__") 470), .none⟩]) 2), (List.toArray [])⟩) ?_
    refine List.cons ((nat_lit 115), ⟨(.type "type"), none, (.cls ⟨(.ofString "BufferedIOBase"), [(.ref 100)], [(.ref 115), (.ref 100), (.type "object")], 114, (.ofString "BufferedIOBase"), true, [], [(.ref 357)], false, none, false⟩), (List.toArray [(some (.ref 106)), none, (some (.str (.ofString "BufferedIOBase") 455)), (some (.str (.ofString "BufferedIOBase") 463)), (some .none), (some (.bool true))])⟩) ?_
    refine List.cons ((nat_lit 118), ⟨(.type "tuple"), none, (.seq (List.toArray [(.ref 100)]) 0), (List.toArray [])⟩) ?_
    refine List.cons ((nat_lit 125), ⟨(.type "tuple"), none, (.seq (List.toArray []) 0), (List.toArray [])⟩) ?_
    refine List.cons ((nat_lit 126), ⟨(.type "dict"), none, (.dict (List.toArray [⟨(PySem.PyData.keyHash P (.ofString "__module__")), (.str (.ofString "__module__") 480), (.str (.ofString "io") 485)⟩, ⟨(PySem.PyData.keyHash P (.ofString "__firstlineno__")), (.str (.ofString "__firstlineno__") 484), (.int 41 483)⟩, ⟨(PySem.PyData.keyHash P (.ofString "__static_attributes__")), (.str (.ofString "__static_attributes__") 487), (.ref 125)⟩, ⟨(PySem.PyData.keyHash P (.ofString "__doc__")), (.str (.ofString "__doc__") 488), .none⟩]) 2), (List.toArray [])⟩) ?_
    refine List.cons ((nat_lit 127), ⟨(.type "type"), none, (.cls ⟨(.ofString "TextIOBase"), [(.ref 100)], [(.ref 127), (.ref 100), (.type "object")], 126, (.ofString "TextIOBase"), true, [], [(.ref 604)], false, none, false⟩), (List.toArray [(some (.ref 118)), none, (some (.str (.ofString "TextIOBase") 473)), (some (.str (.ofString "TextIOBase") 481)), (some .none), (some (.bool true))])⟩) ?_
    refine List.cons ((nat_lit 355), ⟨(.type "tuple"), none, (.seq (List.toArray [(.str (.ofString "__buf") 747), (.str (.ofString "__pos") 748)]) 0), (List.toArray [])⟩) ?_
    refine List.cons ((nat_lit 356), ⟨(.type "dict"), none, (.dict (List.toArray (⟨(PySem.PyData.keyHash P (.ofString "__module__")), (.str (.ofString "__module__") 498), (.str (.ofString "_io") 503)⟩ :: ⟨(PySem.PyData.keyHash P (.ofString "__firstlineno__")), (.str (.ofString "__firstlineno__") 502), (.int 43 501)⟩ :: ⟨(PySem.PyData.keyHash P (.ofString "__init__")), (.str (.ofString "__init__") 512), (.ref 144)⟩ :: ⟨(PySem.PyData.keyHash P (.ofString "_BytesIO__check")), (.str (.ofString "_BytesIO__check") 519), (.ref 151)⟩ :: ⟨(PySem.PyData.keyHash P (.ofString "_BytesIO__line")), (.str (.ofString "_BytesIO__line") 530), (.ref 158)⟩ :: ⟨(PySem.PyData.keyHash P (.ofString "closed")), (.str (.ofString "closed") 538), (.ref 166)⟩ :: ⟨(PySem.PyData.keyHash P (.ofString "close")), (.str (.ofString "close") 545), (.ref 173)⟩ :: ⟨(PySem.PyData.keyHash P (.ofString "__enter__")), (.str (.ofString "__enter__") 552), (.ref 180)⟩ :: ⟨(PySem.PyData.keyHash P (.ofString "__exit__")), (.str (.ofString "__exit__") 560), (.ref 187)⟩ :: ⟨(PySem.PyData.keyHash P (.ofString "readable")), (.str (.ofString "readable") 567), (.ref 194)⟩ :: ⟨(PySem.PyData.keyHash P (.ofString "writable")), (.str (.ofString "writable") 574), (.ref 201)⟩ :: ⟨(PySem.PyData.keyHash P (.ofString "seekable")), (.str (.ofString "seekable") 581), (.ref 208)⟩ :: ⟨(PySem.PyData.keyHash P (.ofString "isatty")), (.str (.ofString "isatty") 588), (.ref 215)⟩ :: ⟨(PySem.PyData.keyHash P (.ofString "flush")), (.str (.ofString "flush") 595), (.ref 222)⟩ :: ⟨(PySem.PyData.keyHash P (.ofString "fileno")), (.str (.ofString "fileno") 602), (.ref 229)⟩ :: ⟨(PySem.PyData.keyHash P (.ofString "detach")), (.str (.ofString "detach") 609), (.ref 236)⟩ :: ⟨(PySem.PyData.keyHash P (.ofString "getvalue")), (.str (.ofString "getvalue") 616), (.ref 243)⟩ :: ⟨(PySem.PyData.keyHash P (.ofString "getbuffer")), (.str (.ofString "getbuffer") 623), (.ref 250)⟩ :: ⟨(PySem.PyData.keyHash P (.ofString "tell")), (.str (.ofString "tell") 630), (.ref 257)⟩ :: ⟨(PySem.PyData.keyHash P (.ofString "seek")), (.str (.ofString "seek") 640), (.ref 265)⟩ :: ⟨(PySem.PyData.keyHash P (.ofString "truncate")), (.str (.ofString "truncate") 648), (.ref 273)⟩ :: ⟨(PySem.PyData.keyHash P (.ofString "read")), (.str (.ofString "read") 660), (.ref 281)⟩ :: ⟨(PySem.PyData.keyHash P (.ofString "read1")), (.str (.ofString "read1") 670), (.ref 289)⟩ :: ⟨(PySem.PyData.keyHash P (.ofString "readinto")), (.str (.ofString "readinto") 680), (.ref 296)⟩ :: ⟨(PySem.PyData.keyHash P (.ofString "readinto1")), (.str (.ofString "readinto1") 688), (.ref 303)⟩ :: ⟨(PySem.PyData.keyHash P (.ofString "readline")), (.str (.ofString "readline") 698), (.ref 311)⟩ :: ⟨(PySem.PyData.keyHash P (.ofString "readlines")), (.str (.ofString "readlines") 706), (.ref 319)⟩ :: ⟨(PySem.PyData.keyHash P (.ofString "__iter__")), (.str (.ofString "__iter__") 713), (.ref 326)⟩ :: ⟨(PySem.PyData.keyHash P (.ofString "__next__")), (.str (.ofString "__next__") 721), (.ref 333)⟩ :: ⟨(PySem.PyData.keyHash P (.ofString "write")), (.str (.ofString "write") 731), (.ref 340)⟩ :: ⟨(PySem.PyData.keyHash P (.ofString "writelines")), (.str (.ofString "writelines") 739), (.ref 347)⟩ :: ⟨(PySem.PyData.keyHash P (.ofString "__repr__")), (.str (.ofString "__repr__") 746), (.ref 354)⟩ :: ⟨(PySem.PyData.keyHash P (.ofString "__static_attributes__")), (.str (.ofString "__static_attributes__") 749), (.ref 355)⟩ :: ⟨(PySem.PyData.keyHash P (.ofString "__doc__")), (.str (.ofString "__doc__") 750), .none⟩ :: [])) 2), (List.toArray [])⟩) ?_
    refine List.cons ((nat_lit 357), ⟨(.type "type"), none, (.cls ⟨(.ofString "BytesIO"), [(.ref 115)], [(.ref 357), (.ref 115), (.ref 100), (.type "object")], 356, (.ofString "BytesIO"), true, [], [], false, none, false⟩), (List.toArray [(some (.ref 130)), none, (some (.str (.ofString "BytesIO") 491)), (some (.str (.ofString "BytesIO") 499)), (some .none), (some (.bool true))])⟩) ?_
    refine List.cons ((nat_lit 360), ⟨(.type "tuple"), none, (.seq (List.toArray [(.ref 127)]) 0), (List.toArray [])⟩) ?_
    refine List.cons ((nat_lit 367), ⟨(.type "tuple"), none, (.seq (List.toArray [(.str (.ofString "") 767), (.str (.ofString "\n") 768)]) 0), (List.toArray [])⟩) ?_
    refine List.cons ((nat_lit 368), ⟨(.type "tuple"), none, (.seq (List.toArray []) 0), (List.toArray [])⟩) ?_
    refine List.cons ((nat_lit 370), ⟨(.type "tuple"), none, (.seq (List.toArray [(.str (.ofString "self") 772), (.str (.ofString "initial_value") 773), (.str (.ofString "newline") 774)]) 0), (List.toArray [])⟩) ?_
    refine List.cons ((nat_lit 371), ⟨(.type "tuple"), none, (.seq (List.toArray []) 0), (List.toArray [])⟩) ?_
    refine List.cons ((nat_lit 373), ⟨(.type "code"), none, (.fields (List.toArray [(.str (.ofString "__init__") 769), (.str (.ofString "StringIO.__init__") 770), (.str (.ofString "/claim/cut.py") 771), (.int 216 0), (.int 3 0), (.int 0 0), (.int 0 0), (.int 3 0), (.ref 368), (.bool true), (.int 318 0), (.ref 369), .none, (.ref 370), (.ref 371), (.ref 372), (.int 775 0), (.int 216 0), (.str (.ofString "/claim/cut.py") 776)])), (List.toArray [])⟩) ?_
    refine List.cons ((nat_lit 374), ⟨(.type "function"), none, (.func ⟨n374, (.ofString "StringIO.__init__"), a374, (.stmts b374), s374, 3, [], (.ref 367), .none, .none, (.str (.ofString "io") 383), none, (.ref 373), .none, 0⟩), (List.toArray [])⟩) ?_
    refine List.cons ((nat_lit 375), ⟨(.type "tuple"), none, (.seq (List.toArray []) 0), (List.toArray [])⟩) ?_
    refine List.cons ((nat_lit 377), ⟨(.type "tuple"), none, (.seq (List.toArray [(.str (.ofString "self") 781), (.str (.ofString "s") 782), (.str (.ofString "newline") 783)]) 0), (List.toArray [])⟩) ?_
    refine List.cons ((nat_lit 378), ⟨(.type "tuple"), none, (.seq (List.toArray []) 0), (List.toArray [])⟩) ?_
    refine List.cons ((nat_lit 380), ⟨(.type "code"), none, (.fields (List.toArray [(.str (.ofString "__translated") 778), (.str (.ofString "StringIO.__translated") 779), (.str (.ofString "/claim/cut.py") 780), (.int 229 0), (.int 2 0), (.int 0 0), (.int 0 0), (.int 3 0), (.ref 375), (.bool true), (.int 318 0), (.ref 376), .none, (.ref 377), (.ref 378), (.ref 379), (.int 784 0), (.int 229 0), (.str (.ofString "/claim/cut.py") 785)])), (List.toArray [])⟩) ?_
    refine List.cons ((nat_lit 381), ⟨(.type "function"), none, (.func ⟨n381, (.ofString "StringIO.__translated"), a381, (.stmts b381), s381, 3, [], .none, .none, .none, (.str (.ofString "io") 383), none, (.ref 380), .none, 0⟩), (List.toArray [])⟩) ?_
    refine List.cons ((nat_lit 382), ⟨(.type "tuple"), none, (.seq (List.toArray []) 0), (List.toArray [])⟩) ?_
    refine List.cons ((nat_lit 384), ⟨(.type "tuple"), none, (.seq (List.toArray [(.str (.ofString "self") 790)]) 0), (List.toArray [])⟩) ?_
    refine List.cons ((nat_lit 385), ⟨(.type "tuple"), none, (.seq (List.toArray []) 0), (List.toArray [])⟩) ?_
    refine List.cons ((nat_lit 387), ⟨(.type "code"), none, (.fields (List.toArray [(.str (.ofString "__check") 787), (.str (.ofString "StringIO.__check") 788), (.str (.ofString "/claim/cut.py") 789), (.int 237 0), (.int 1 0), (.int 0 0), (.int 0 0), (.int 3 0), (.ref 382), (.bool true), (.int 318 0), (.ref 383), .none, (.ref 384), (.ref 385), (.ref 386), (.int 791 0), (.int 237 0), (.str (.ofString "/claim/cut.py") 792)])), (List.toArray [])⟩) ?_
    refine List.cons ((nat_lit 388), ⟨(.type "function"), none, (.func ⟨n388, (.ofString "StringIO.__check"), a388, (.stmts b388), s388, 3, [], .none, .none, .none, (.str (.ofString "io") 383), none, (.ref 387), .none, 0⟩), (List.toArray [])⟩) ?_
    refine List.cons ((nat_lit 389), ⟨(.type "tuple"), none, (.seq (List.toArray []) 0), (List.toArray [])⟩) ?_
    refine List.cons ((nat_lit 391), ⟨(.type "tuple"), none, (.seq (List.toArray [(.str (.ofString "self") 797)]) 0), (List.toArray [])⟩) ?_
    refine List.cons ((nat_lit 392), ⟨(.type "tuple"), none, (.seq (List.toArray []) 0), (List.toArray [])⟩) ?_
    refine List.cons ((nat_lit 394), ⟨(.type "code"), none, (.fields (List.toArray [(.str (.ofString "__check_dot") 794), (.str (.ofString "StringIO.__check_dot") 795), (.str (.ofString "/claim/cut.py") 796), (.int 241 0), (.int 1 0), (.int 0 0), (.int 0 0), (.int 3 0), (.ref 389), (.bool true), (.int 318 0), (.ref 390), .none, (.ref 391), (.ref 392), (.ref 393), (.int 798 0), (.int 241 0), (.str (.ofString "/claim/cut.py") 799)])), (List.toArray [])⟩) ?_
    refine List.cons ((nat_lit 395), ⟨(.type "function"), none, (.func ⟨n395, (.ofString "StringIO.__check_dot"), a395, (.stmts b395), s395, 3, [], .none, .none, .none, (.str (.ofString "io") 383), none, (.ref 394), .none, 0⟩), (List.toArray [])⟩) ?_
    refine List.cons ((nat_lit 396), ⟨(.type "tuple"), none, (.seq (List.toArray []) 0), (List.toArray [])⟩) ?_
    refine List.cons ((nat_lit 398), ⟨(.type "tuple"), none, (.seq (List.toArray [(.str (.ofString "self") 804), (.str (.ofString "limit") 805), (.str (.ofString "start") 806), (.str (.ofString "stop") 807), (.str (.ofString "cut") 808), (.str (.ofString "newline") 809), (.str (.ofString "i") 810), (.str (.ofString "j") 811), (.str (.ofString "end") 812)]) 0), (List.toArray [])⟩) ?_
    refine List.cons ((nat_lit 399), ⟨(.type "tuple"), none, (.seq (List.toArray []) 0), (List.toArray [])⟩) ?_
    refine List.cons ((nat_lit 401), ⟨(.type "code"), none, (.fields (List.toArray [(.str (.ofString "__line") 801), (.str (.ofString "StringIO.__line") 802), (.str (.ofString "/claim/cut.py") 803), (.int 245 0), (.int 2 0), (.int 0 0), (.int 0 0), (.int 3 0), (.ref 396), (.bool true), (.int 318 0), (.ref 397), .none, (.ref 398), (.ref 399), (.ref 400), (.int 813 0), (.int 245 0), (.str (.ofString "/claim/cut.py") 814)])), (List.toArray [])⟩) ?_
    refine List.cons ((nat_lit 402), ⟨(.type "function"), none, (.func ⟨n402, (.ofString "StringIO.__line"), a402, (.stmts b402), s402, 3, [], .none, .none, .none, (.str (.ofString "io") 383), none, (.ref 401), .none, 0⟩), (List.toArray [])⟩) ?_
    refine List.cons ((nat_lit 543), ⟨(.type "tuple"), none, (.seq (List.toArray [(.int (Neg.neg 1) 960)]) 0), (List.toArray [])⟩) ?_
    refine List.cons ((nat_lit 544), ⟨(.type "tuple"), none, (.seq (List.toArray []) 0), (List.toArray [])⟩) ?_
    refine List.cons ((nat_lit 546), ⟨(.type "tuple"), none, (.seq (List.toArray [(.str (.ofString "self") 964), (.str (.ofString "size") 965), (.str (.ofString "start") 966), (.str (.ofString "stop") 967)]) 0), (List.toArray [])⟩) ?_
    refine List.cons ((nat_lit 547), ⟨(.type "tuple"), none, (.seq (List.toArray []) 0), (List.toArray [])⟩) ?_
    refine List.cons ((nat_lit 549), ⟨(.type "code"), none, (.fields (List.toArray [(.str (.ofString "read") 961), (.str (.ofString "StringIO.read") 962), (.str (.ofString "/claim/cut.py") 963), (.int 359 0), (.int 2 0), (.int 2 0), (.int 0 0), (.int 3 0), (.ref 544), (.bool true), (.int 318 0), (.ref 545), .none, (.ref 546), (.ref 547), (.ref 548), (.int 968 0), (.int 359 0), (.str (.ofString "/claim/cut.py") 969)])), (List.toArray [])⟩) ?_
    refine List.cons ((nat_lit 550), ⟨(.type "function"), none, (.func ⟨n550, (.ofString "StringIO.read"), a550, (.stmts b550), s550, 3, [], (.ref 543), .none, .none, (.str (.ofString "io") 383), none, (.ref 549), .none, 0⟩), (List.toArray [])⟩) ?_
    refine List.cons ((nat_lit 551), ⟨(.type "tuple"), none, (.seq (List.toArray [(.int (Neg.neg 1) 972)]) 0), (List.toArray [])⟩) ?_
    refine List.cons ((nat_lit 552), ⟨(.type "tuple"), none, (.seq (List.toArray []) 0), (List.toArray [])⟩) ?_
    refine List.cons ((nat_lit 554), ⟨(.type "tuple"), none, (.seq (List.toArray [(.str (.ofString "self") 976), (.str (.ofString "size") 977)]) 0), (List.toArray [])⟩) ?_
    refine List.cons ((nat_lit 555), ⟨(.type "tuple"), none, (.seq (List.toArray []) 0), (List.toArray [])⟩) ?_
    refine List.cons ((nat_lit 557), ⟨(.type "code"), none, (.fields (List.toArray [(.str (.ofString "readline") 973), (.str (.ofString "StringIO.readline") 974), (.str (.ofString "/claim/cut.py") 975), (.int 373 0), (.int 2 0), (.int 2 0), (.int 0 0), (.int 3 0), (.ref 552), (.bool true), (.int 318 0), (.ref 553), .none, (.ref 554), (.ref 555), (.ref 556), (.int 978 0), (.int 373 0), (.str (.ofString "/claim/cut.py") 979)])), (List.toArray [])⟩) ?_
    refine List.cons ((nat_lit 558), ⟨(.type "function"), none, (.func ⟨n558, (.ofString "StringIO.readline"), a558, (.stmts b558), s558, 3, [], (.ref 551), .none, .none, (.str (.ofString "io") 383), none, (.ref 557), .none, 0⟩), (List.toArray [])⟩) ?_
    refine List.cons ((nat_lit 603), ⟨(.type "dict"), none, (.dict (List.toArray (⟨(PySem.PyData.keyHash P (.ofString "__module__")), (.str (.ofString "__module__") 760), (.str (.ofString "_io") 765)⟩ :: ⟨(PySem.PyData.keyHash P (.ofString "__firstlineno__")), (.str (.ofString "__firstlineno__") 764), (.int 213 763)⟩ :: ⟨(PySem.PyData.keyHash P (.ofString "__init__")), (.str (.ofString "__init__") 777), (.ref 374)⟩ :: ⟨(PySem.PyData.keyHash P (.ofString "_StringIO__translated")), (.str (.ofString "_StringIO__translated") 786), (.ref 381)⟩ :: ⟨(PySem.PyData.keyHash P (.ofString "_StringIO__check")), (.str (.ofString "_StringIO__check") 793), (.ref 388)⟩ :: ⟨(PySem.PyData.keyHash P (.ofString "_StringIO__check_dot")), (.str (.ofString "_StringIO__check_dot") 800), (.ref 395)⟩ :: ⟨(PySem.PyData.keyHash P (.ofString "_StringIO__line")), (.str (.ofString "_StringIO__line") 815), (.ref 402)⟩ :: ⟨(PySem.PyData.keyHash P (.ofString "closed")), (.str (.ofString "closed") 823), (.ref 410)⟩ :: ⟨(PySem.PyData.keyHash P (.ofString "line_buffering")), (.str (.ofString "line_buffering") 831), (.ref 418)⟩ :: ⟨(PySem.PyData.keyHash P (.ofString "newlines")), (.str (.ofString "newlines") 839), (.ref 426)⟩ :: ⟨(PySem.PyData.keyHash P (.ofString "encoding")), (.str (.ofString "encoding") 847), (.ref 434)⟩ :: ⟨(PySem.PyData.keyHash P (.ofString "errors")), (.str (.ofString "errors") 855), (.ref 442)⟩ :: ⟨(PySem.PyData.keyHash P (.ofString "close")), (.str (.ofString "close") 862), (.ref 449)⟩ :: ⟨(PySem.PyData.keyHash P (.ofString "__enter__")), (.str (.ofString "__enter__") 869), (.ref 456)⟩ :: ⟨(PySem.PyData.keyHash P (.ofString "__exit__")), (.str (.ofString "__exit__") 877), (.ref 463)⟩ :: ⟨(PySem.PyData.keyHash P (.ofString "readable")), (.str (.ofString "readable") 884), (.ref 470)⟩ :: ⟨(PySem.PyData.keyHash P (.ofString "writable")), (.str (.ofString "writable") 891), (.ref 477)⟩ :: ⟨(PySem.PyData.keyHash P (.ofString "seekable")), (.str (.ofString "seekable") 898), (.ref 484)⟩ :: ⟨(PySem.PyData.keyHash P (.ofString "isatty")), (.str (.ofString "isatty") 905), (.ref 491)⟩ :: ⟨(PySem.PyData.keyHash P (.ofString "flush")), (.str (.ofString "flush") 912), (.ref 498)⟩ :: ⟨(PySem.PyData.keyHash P (.ofString "fileno")), (.str (.ofString "fileno") 919), (.ref 505)⟩ :: ⟨(PySem.PyData.keyHash P (.ofString "detach")), (.str (.ofString "detach") 926), (.ref 512)⟩ :: ⟨(PySem.PyData.keyHash P (.ofString "getvalue")), (.str (.ofString "getvalue") 933), (.ref 519)⟩ :: ⟨(PySem.PyData.keyHash P (.ofString "tell")), (.str (.ofString "tell") 940), (.ref 526)⟩ :: ⟨(PySem.PyData.keyHash P (.ofString "seek")), (.str (.ofString "seek") 950), (.ref 534)⟩ :: ⟨(PySem.PyData.keyHash P (.ofString "truncate")), (.str (.ofString "truncate") 958), (.ref 542)⟩ :: ⟨(PySem.PyData.keyHash P (.ofString "read")), (.str (.ofString "read") 970), (.ref 550)⟩ :: ⟨(PySem.PyData.keyHash P (.ofString "readline")), (.str (.ofString "readline") 980), (.ref 558)⟩ :: ⟨(PySem.PyData.keyHash P (.ofString "readlines")), (.str (.ofString "readlines") 990), (.ref 566)⟩ :: ⟨(PySem.PyData.keyHash P (.ofString "__iter__")), (.str (.ofString "__iter__") 997), (.ref 573)⟩ :: ⟨(PySem.PyData.keyHash P (.ofString "__next__")), (.str (.ofString "__next__") 1005), (.ref 580)⟩ :: ⟨(PySem.PyData.keyHash P (.ofString "write")), (.str (.ofString "write") 1017), (.ref 587)⟩ :: ⟨(PySem.PyData.keyHash P (.ofString "writelines")), (.str (.ofString "writelines") 1025), (.ref 594)⟩ :: ⟨(PySem.PyData.keyHash P (.ofString "__repr__")), (.str (.ofString "__repr__") 1032), (.ref 601)⟩ :: ⟨(PySem.PyData.keyHash P (.ofString "__static_attributes__")), (.str (.ofString "__static_attributes__") 1036), (.ref 602)⟩ :: ⟨(PySem.PyData.keyHash P (.ofString "__doc__")), (.str (.ofString "__doc__") 1037), .none⟩ :: [])) 2), (List.toArray [])⟩) ?_
    refine List.cons ((nat_lit 604), ⟨(.type "type"), none, (.cls ⟨(.ofString "StringIO"), [(.ref 127)], [(.ref 604), (.ref 127), (.ref 100), (.type "object")], 603, (.ofString "StringIO"), true, [], [], false, none, false⟩), (List.toArray [(some (.ref 360)), none, (some (.str (.ofString "StringIO") 753)), (some (.str (.ofString "StringIO") 761)), (some .none), (some (.bool true))])⟩) ?_
    refine List.cons ((nat_lit 656), ⟨(.type "tuple"), none, (.seq (List.toArray [.none, .none, (.bool false), (.bool false)]) 0), (List.toArray [])⟩) ?_
    refine List.cons ((nat_lit 657), ⟨(.type "tuple"), none, (.seq (List.toArray []) 0), (List.toArray [])⟩) ?_
    refine List.cons ((nat_lit 659), ⟨(.type "tuple"), none, (.seq (List.toArray [(.str (.ofString "self") 1116), (.str (.ofString "instream") 1117), (.str (.ofString "infile") 1118), (.str (.ofString "posix") 1119), (.str (.ofString "punctuation_chars") 1120), (.str (.ofString "t") 1121)]) 0), (List.toArray [])⟩) ?_
    refine List.cons ((nat_lit 660), ⟨(.type "tuple"), none, (.seq (List.toArray []) 0), (List.toArray [])⟩) ?_
    refine List.cons ((nat_lit 662), ⟨(.type "code"), none, (.fields (List.toArray [(.str (.ofString "__init__") 1113), (.str (.ofString "shlex.__init__") 1114), (.str (.ofString "/claim/cut.py") 1115), (.int 485 0), (.int 5 0), (.int 0 0), (.int 0 0), (.int 3 0), (.ref 657), (.bool true), (.int 318 0), (.ref 658), .none, (.ref 659), (.ref 660), (.ref 661), (.int 1122 0), (.int 485 0), (.str (.ofString "/claim/cut.py") 1123)])), (List.toArray [])⟩) ?_
    refine List.cons ((nat_lit 663), ⟨(.type "function"), none, (.func ⟨n663, (.ofString "shlex.__init__"), a663, (.stmts b663), s663, 3, [], (.ref 656), .none, .none, (.str (.ofString "cpy313.shlex") 1099), none, (.ref 662), .none, 0⟩), (List.toArray [])⟩) ?_
    refine List.cons ((nat_lit 664), ⟨(.type "tuple"), none, (.seq (List.toArray []) 0), (List.toArray [])⟩) ?_
    refine List.cons ((nat_lit 666), ⟨(.type "tuple"), none, (.seq (List.toArray [(.str (.ofString "self") 1128)]) 0), (List.toArray [])⟩) ?_
    refine List.cons ((nat_lit 667), ⟨(.type "tuple"), none, (.seq (List.toArray []) 0), (List.toArray [])⟩) ?_
    refine List.cons ((nat_lit 669), ⟨(.type "code"), none, (.fields (List.toArray [(.str (.ofString "punctuation_chars") 1125), (.str (.ofString "shlex.punctuation_chars") 1126), (.str (.ofString "/claim/cut.py") 1127), (.int 526 0), (.int 1 0), (.int 0 0), (.int 0 0), (.int 3 0), (.ref 664), (.bool true), (.int 318 0), (.ref 665), .none, (.ref 666), (.ref 667), (.ref 668), (.int 1129 0), (.int 526 0), (.str (.ofString "/claim/cut.py") 1130)])), (List.toArray [])⟩) ?_
    refine List.cons ((nat_lit 670), ⟨(.type "function"), none, (.func ⟨n670, (.ofString "shlex.punctuation_chars"), a670, (.stmts b670), s670, 3, [], .none, .none, .none, (.str (.ofString "cpy313.shlex") 1099), none, (.ref 669), .none, 0⟩), (List.toArray [])⟩) ?_
    refine List.cons ((nat_lit 671), ⟨(.type "property"), none, (.fields (List.toArray [(.ref 670), .none, .none, .none, (.str (.ofString "punctuation_chars") 1132), (.bool false)])), (List.toArray [])⟩) ?_
    refine List.cons ((nat_lit 672), ⟨(.type "tuple"), none, (.seq (List.toArray []) 0), (List.toArray [])⟩) ?_
    refine List.cons ((nat_lit 674), ⟨(.type "tuple"), none, (.seq (List.toArray [(.str (.ofString "self") 1136), (.str (.ofString "tok") 1137)]) 0), (List.toArray [])⟩) ?_
    refine List.cons ((nat_lit 675), ⟨(.type "tuple"), none, (.seq (List.toArray []) 0), (List.toArray [])⟩) ?_
    refine List.cons ((nat_lit 677), ⟨(.type "code"), none, (.fields (List.toArray [(.str (.ofString "push_token") 1133), (.str (.ofString "shlex.push_token") 1134), (.str (.ofString "/claim/cut.py") 1135), (.int 530 0), (.int 2 0), (.int 0 0), (.int 0 0), (.int 3 0), (.ref 672), (.bool true), (.int 318 0), (.ref 673), .none, (.ref 674), (.ref 675), (.ref 676), (.int 1138 0), (.int 530 0), (.str (.ofString "/claim/cut.py") 1139)])), (List.toArray [])⟩) ?_
    refine List.cons ((nat_lit 678), ⟨(.type "function"), none, (.func ⟨n678, (.ofString "shlex.push_token"), a678, (.stmts b678), s678, 3, [], .none, .none, .none, (.str (.ofString "cpy313.shlex") 1099), none, (.ref 677), .none, 0⟩), (List.toArray [])⟩) ?_
    refine List.cons ((nat_lit 679), ⟨(.type "tuple"), none, (.seq (List.toArray [.none]) 0), (List.toArray [])⟩) ?_
    refine List.cons ((nat_lit 680), ⟨(.type "tuple"), none, (.seq (List.toArray []) 0), (List.toArray [])⟩) ?_
    refine List.cons ((nat_lit 682), ⟨(.type "tuple"), none, (.seq (List.toArray [(.str (.ofString "self") 1144), (.str (.ofString "newstream") 1145), (.str (.ofString "newfile") 1146)]) 0), (List.toArray [])⟩) ?_
    refine List.cons ((nat_lit 683), ⟨(.type "tuple"), none, (.seq (List.toArray []) 0), (List.toArray [])⟩) ?_
    refine List.cons ((nat_lit 685), ⟨(.type "code"), none, (.fields (List.toArray [(.str (.ofString "push_source") 1141), (.str (.ofString "shlex.push_source") 1142), (.str (.ofString "/claim/cut.py") 1143), (.int 533 0), (.int 3 0), (.int 0 0), (.int 0 0), (.int 3 0), (.ref 680), (.bool true), (.int 318 0), (.ref 681), .none, (.ref 682), (.ref 683), (.ref 684), (.int 1147 0), (.int 533 0), (.str (.ofString "/claim/cut.py") 1148)])), (List.toArray [])⟩) ?_
    refine List.cons ((nat_lit 686), ⟨(.type "function"), none, (.func ⟨n686, (.ofString "shlex.push_source"), a686, (.stmts b686), s686, 3, [], (.ref 679), .none, .none, (.str (.ofString "cpy313.shlex") 1099), none, (.ref 685), .none, 0⟩), (List.toArray [])⟩) ?_
    refine List.cons ((nat_lit 687), ⟨(.type "tuple"), none, (.seq (List.toArray []) 0), (List.toArray [])⟩) ?_
    refine List.cons ((nat_lit 689), ⟨(.type "tuple"), none, (.seq (List.toArray [(.str (.ofString "self") 1153)]) 0), (List.toArray [])⟩) ?_
    refine List.cons ((nat_lit 690), ⟨(.type "tuple"), none, (.seq (List.toArray []) 0), (List.toArray [])⟩) ?_
    refine List.cons ((nat_lit 692), ⟨(.type "code"), none, (.fields (List.toArray [(.str (.ofString "pop_source") 1150), (.str (.ofString "shlex.pop_source") 1151), (.str (.ofString "/claim/cut.py") 1152), (.int 546 0), (.int 1 0), (.int 0 0), (.int 0 0), (.int 3 0), (.ref 687), (.bool true), (.int 318 0), (.ref 688), .none, (.ref 689), (.ref 690), (.ref 691), (.int 1154 0), (.int 546 0), (.str (.ofString "/claim/cut.py") 1155)])), (List.toArray [])⟩) ?_
    refine List.cons ((nat_lit 693), ⟨(.type "function"), none, (.func ⟨n693, (.ofString "shlex.pop_source"), a693, (.stmts b693), s693, 3, [], .none, .none, .none, (.str (.ofString "cpy313.shlex") 1099), none, (.ref 692), .none, 0⟩), (List.toArray [])⟩) ?_
    refine List.cons ((nat_lit 694), ⟨(.type "tuple"), none, (.seq (List.toArray []) 0), (List.toArray [])⟩) ?_
    refine List.cons ((nat_lit 696), ⟨(.type "tuple"), none, (.seq (List.toArray [(.str (.ofString "self") 1160), (.str (.ofString "tok") 1161), (.str (.ofString "raw") 1162), (.str (.ofString "spec") 1163), (.str (.ofString "newfile") 1164), (.str (.ofString "newstream") 1165)]) 0), (List.toArray [])⟩) ?_
    refine List.cons ((nat_lit 697), ⟨(.type "tuple"), none, (.seq (List.toArray []) 0), (List.toArray [])⟩) ?_
    refine List.cons ((nat_lit 699), ⟨(.type "code"), none, (.fields (List.toArray [(.str (.ofString "get_token") 1157), (.str (.ofString "shlex.get_token") 1158), (.str (.ofString "/claim/cut.py") 1159), (.int 553 0), (.int 1 0), (.int 0 0), (.int 0 0), (.int 3 0), (.ref 694), (.bool true), (.int 318 0), (.ref 695), .none, (.ref 696), (.ref 697), (.ref 698), (.int 1166 0), (.int 553 0), (.str (.ofString "/claim/cut.py") 1167)])), (List.toArray [])⟩) ?_
    refine List.cons ((nat_lit 700), ⟨(.type "function"), none, (.func ⟨n700, (.ofString "shlex.get_token"), a700, (.stmts b700), s700, 3, [], .none, .none, .none, (.str (.ofString "cpy313.shlex") 1099), none, (.ref 699), .none, 0⟩), (List.toArray [])⟩) ?_
    refine List.cons ((nat_lit 701), ⟨(.type "tuple"), none, (.seq (List.toArray []) 0), (List.toArray [])⟩) ?_
    refine List.cons ((nat_lit 703), ⟨(.type "tuple"), none, (.seq (List.toArray [(.str (.ofString "self") 1172), (.str (.ofString "quoted") 1173), (.str (.ofString "escapedstate") 1174), (.str (.ofString "nextchar") 1175), (.str (.ofString "result") 1176)]) 0), (List.toArray [])⟩) ?_
    refine List.cons ((nat_lit 704), ⟨(.type "tuple"), none, (.seq (List.toArray []) 0), (List.toArray [])⟩) ?_
    refine List.cons ((nat_lit 706), ⟨(.type "code"), none, (.fields (List.toArray [(.str (.ofString "read_token") 1169), (.str (.ofString "shlex.read_token") 1170), (.str (.ofString "/claim/cut.py") 1171), (.int 580 0), (.int 1 0), (.int 0 0), (.int 0 0), (.int 3 0), (.ref 701), (.bool true), (.int 318 0), (.ref 702), .none, (.ref 703), (.ref 704), (.ref 705), (.int 1177 0), (.int 580 0), (.str (.ofString "/claim/cut.py") 1178)])), (List.toArray [])⟩) ?_
    refine List.cons ((nat_lit 707), ⟨(.type "function"), none, (.func ⟨n707, (.ofString "shlex.read_token"), a707, (.stmts b707), s707, 3, [], .none, .none, .none, (.str (.ofString "cpy313.shlex") 1099), none, (.ref 706), .none, 0⟩), (List.toArray [])⟩) ?_
    refine List.cons ((nat_lit 708), ⟨(.type "tuple"), none, (.seq (List.toArray []) 0), (List.toArray [])⟩) ?_
    refine List.cons ((nat_lit 710), ⟨(.type "tuple"), none, (.seq (List.toArray [(.str (.ofString "self") 1183), (.str (.ofString "newfile") 1184)]) 0), (List.toArray [])⟩) ?_
    refine List.cons ((nat_lit 711), ⟨(.type "tuple"), none, (.seq (List.toArray []) 0), (List.toArray [])⟩) ?_
    refine List.cons ((nat_lit 713), ⟨(.type "code"), none, (.fields (List.toArray [(.str (.ofString "sourcehook") 1180), (.str (.ofString "shlex.sourcehook") 1181), (.str (.ofString "/claim/cut.py") 1182), (.int 717 0), (.int 2 0), (.int 0 0), (.int 0 0), (.int 3 0), (.ref 708), (.bool true), (.int 318 0), (.ref 709), .none, (.ref 710), (.ref 711), (.ref 712), (.int 1185 0), (.int 717 0), (.str (.ofString "/claim/cut.py") 1186)])), (List.toArray [])⟩) ?_
    refine List.cons ((nat_lit 714), ⟨(.type "function"), none, (.func ⟨n714, (.ofString "shlex.sourcehook"), a714, (.stmts b714), s714, 3, [], .none, .none, .none, (.str (.ofString "cpy313.shlex") 1099), none, (.ref 713), .none, 0⟩), (List.toArray [])⟩) ?_
    refine List.cons ((nat_lit 715), ⟨(.type "tuple"), none, (.seq (List.toArray [.none, .none]) 0), (List.toArray [])⟩) ?_
    refine List.cons ((nat_lit 716), ⟨(.type "tuple"), none, (.seq (List.toArray []) 0), (List.toArray [])⟩) ?_
    refine List.cons ((nat_lit 718), ⟨(.type "tuple"), none, (.seq (List.toArray [(.str (.ofString "self") 1191), (.str (.ofString "infile") 1192), (.str (.ofString "lineno") 1193)]) 0), (List.toArray [])⟩) ?_
    refine List.cons ((nat_lit 719), ⟨(.type "tuple"), none, (.seq (List.toArray []) 0), (List.toArray [])⟩) ?_
    refine List.cons ((nat_lit 721), ⟨(.type "code"), none, (.fields (List.toArray [(.str (.ofString "error_leader") 1188), (.str (.ofString "shlex.error_leader") 1189), (.str (.ofString "/claim/cut.py") 1190), (.int 724 0), (.int 3 0), (.int 0 0), (.int 0 0), (.int 3 0), (.ref 716), (.bool true), (.int 318 0), (.ref 717), .none, (.ref 718), (.ref 719), (.ref 720), (.int 1194 0), (.int 724 0), (.str (.ofString "/claim/cut.py") 1195)])), (List.toArray [])⟩) ?_
    refine List.cons ((nat_lit 722), ⟨(.type "function"), none, (.func ⟨n722, (.ofString "shlex.error_leader"), a722, (.stmts b722), s722, 3, [], (.ref 715), .none, .none, (.str (.ofString "cpy313.shlex") 1099), none, (.ref 721), .none, 0⟩), (List.toArray [])⟩) ?_
    refine List.cons ((nat_lit 723), ⟨(.type "tuple"), none, (.seq (List.toArray []) 0), (List.toArray [])⟩) ?_
    refine List.cons ((nat_lit 725), ⟨(.type "tuple"), none, (.seq (List.toArray [(.str (.ofString "self") 1200)]) 0), (List.toArray [])⟩) ?_
    refine List.cons ((nat_lit 726), ⟨(.type "tuple"), none, (.seq (List.toArray []) 0), (List.toArray [])⟩) ?_
    refine List.cons ((nat_lit 728), ⟨(.type "code"), none, (.fields (List.toArray [(.str (.ofString "__iter__") 1197), (.str (.ofString "shlex.__iter__") 1198), (.str (.ofString "/claim/cut.py") 1199), (.int 727 0), (.int 1 0), (.int 0 0), (.int 0 0), (.int 3 0), (.ref 723), (.bool true), (.int 318 0), (.ref 724), .none, (.ref 725), (.ref 726), (.ref 727), (.int 1201 0), (.int 727 0), (.str (.ofString "/claim/cut.py") 1202)])), (List.toArray [])⟩) ?_
    refine List.cons ((nat_lit 729), ⟨(.type "function"), none, (.func ⟨n729, (.ofString "shlex.__iter__"), a729, (.stmts b729), s729, 3, [], .none, .none, .none, (.str (.ofString "cpy313.shlex") 1099), none, (.ref 728), .none, 0⟩), (List.toArray [])⟩) ?_
    refine List.cons ((nat_lit 730), ⟨(.type "tuple"), none, (.seq (List.toArray []) 0), (List.toArray [])⟩) ?_
    refine List.cons ((nat_lit 732), ⟨(.type "tuple"), none, (.seq (List.toArray [(.str (.ofString "self") 1207), (.str (.ofString "token") 1208)]) 0), (List.toArray [])⟩) ?_
    refine List.cons ((nat_lit 733), ⟨(.type "tuple"), none, (.seq (List.toArray []) 0), (List.toArray [])⟩) ?_
    refine List.cons ((nat_lit 735), ⟨(.type "code"), none, (.fields (List.toArray [(.str (.ofString "__next__") 1204), (.str (.ofString "shlex.__next__") 1205), (.str (.ofString "/claim/cut.py") 1206), (.int 730 0), (.int 1 0), (.int 0 0), (.int 0 0), (.int 3 0), (.ref 730), (.bool true), (.int 318 0), (.ref 731), .none, (.ref 732), (.ref 733), (.ref 734), (.int 1209 0), (.int 730 0), (.str (.ofString "/claim/cut.py") 1210)])), (List.toArray [])⟩) ?_
    refine List.cons ((nat_lit 736), ⟨(.type "function"), none, (.func ⟨n736, (.ofString "shlex.__next__"), a736, (.stmts b736), s736, 3, [], .none, .none, .none, (.str (.ofString "cpy313.shlex") 1099), none, (.ref 735), .none, 0⟩), (List.toArray [])⟩) ?_
    refine List.cons ((nat_lit 737), ⟨(.type "tuple"), none, (.seq (List.toArray [(.str (.ofString "_punctuation_chars") 1212), (.str (.ofString "_pushback_chars") 1213), (.str (.ofString "commenters") 1214), (.str (.ofString "debug") 1215), (.str (.ofString "eof") 1216), (.str (.ofString "escape") 1217), (.str (.ofString "escapedquotes") 1218), (.str (.ofString "filestack") 1219), (.str (.ofString "infile") 1220), (.str (.ofString "instream") 1221), (.str (.ofString "lineno") 1222), (.str (.ofString "posix") 1223), (.str (.ofString "pushback") 1224), (.str (.ofString "quotes") 1225), (.str (.ofString "source") 1226), (.str (.ofString "state") 1227), (.str (.ofString "token") 1228), (.str (.ofString "whitespace") 1229), (.str (.ofString "whitespace_split") 1230), (.str (.ofString "wordchars") 1231)]) 0), (List.toArray [])⟩) ?_
    refine List.cons ((nat_lit 738), ⟨(.type "dict"), none, (.dict (List.toArray [⟨(PySem.PyData.keyHash P (.ofString "__module__")), (.str (.ofString "__module__") 1108), (.str (.ofString "cpy313.shlex") 1099)⟩, ⟨(PySem.PyData.keyHash P (.ofString "__firstlineno__")), (.str (.ofString "__firstlineno__") 1112), (.int 483 1111)⟩, ⟨(PySem.PyData.keyHash P (.ofString "__init__")), (.str (.ofString "__init__") 1124), (.ref 663)⟩, ⟨(PySem.PyData.keyHash P (.ofString "punctuation_chars")), (.str (.ofString "punctuation_chars") 1132), (.ref 671)⟩, ⟨(PySem.PyData.keyHash P (.ofString "push_token")), (.str (.ofString "push_token") 1140), (.ref 678)⟩, ⟨(PySem.PyData.keyHash P (.ofString "push_source")), (.str (.ofString "push_source") 1149), (.ref 686)⟩, ⟨(PySem.PyData.keyHash P (.ofString "pop_source")), (.str (.ofString "pop_source") 1156), (.ref 693)⟩, ⟨(PySem.PyData.keyHash P (.ofString "get_token")), (.str (.ofString "get_token") 1168), (.ref 700)⟩, ⟨(PySem.PyData.keyHash P (.ofString "read_token")), (.str (.ofString "read_token") 1179), (.ref 707)⟩, ⟨(PySem.PyData.keyHash P (.ofString "sourcehook")), (.str (.ofString "sourcehook") 1187), (.ref 714)⟩, ⟨(PySem.PyData.keyHash P (.ofString "error_leader")), (.str (.ofString "error_leader") 1196), (.ref 722)⟩, ⟨(PySem.PyData.keyHash P (.ofString "__iter__")), (.str (.ofString "__iter__") 1203), (.ref 729)⟩, ⟨(PySem.PyData.keyHash P (.ofString "__next__")), (.str (.ofString "__next__") 1211), (.ref 736)⟩, ⟨(PySem.PyData.keyHash P (.ofString "__static_attributes__")), (.str (.ofString "__static_attributes__") 1232), (.ref 737)⟩, ⟨(PySem.PyData.keyHash P (.ofString "__dict__")), (.str (.ofString "__dict__") 1234), (.ref 740)⟩, ⟨(PySem.PyData.keyHash P (.ofString "__weakref__")), (.str (.ofString "__weakref__") 1236), (.ref 741)⟩, ⟨(PySem.PyData.keyHash P (.ofString "__doc__")), (.str (.ofString "__doc__") 1237), .none⟩]) 4), (List.toArray [])⟩) ?_
    refine List.cons ((nat_lit 739), ⟨(.type "type"), none, (.cls ⟨(.ofString "shlex"), [(.type "object")], [(.ref 739), (.type "object")], 738, (.ofString "shlex"), true, [], [], false, none, false⟩), (List.toArray [none, none, (some (.str (.ofString "shlex") 1101)), (some (.str (.ofString "shlex") 1109)), (some (.builtin "object.__new__")), (some (.bool true))])⟩) ?_
    refine List.cons ((nat_lit 740), ⟨(.type "getset_descriptor"), none, (.fields (List.toArray [(.str (.ofString "__dict__") 1233), (.ref 739), (.builtin "function.__dict__"), (.builtin "function.__dict__#set")])), (List.toArray [])⟩) ?_
    refine List.cons ((nat_lit 741), ⟨(.type "getset_descriptor"), none, (.fields (List.toArray [(.str (.ofString "__weakref__") 1235), (.ref 739), (.builtin "ExceptionGroup.__weakref__"), .none])), (List.toArray [])⟩) ?_
    refine List.cons ((nat_lit 744), ⟨(.type "tuple"), none, (.seq (List.toArray [(.bool false), (.bool true)]) 0), (List.toArray [])⟩) ?_
    refine List.cons ((nat_lit 745), ⟨(.type "tuple"), none, (.seq (List.toArray []) 0), (List.toArray [])⟩) ?_
    refine List.cons ((nat_lit 747), ⟨(.type "tuple"), none, (.seq (List.toArray [(.str (.ofString "s") 1243), (.str (.ofString "comments") 1244), (.str (.ofString "posix") 1245), (.str (.ofString "lex") 1246)]) 0), (List.toArray [])⟩) ?_
    refine List.cons ((nat_lit 748), ⟨(.type "tuple"), none, (.seq (List.toArray []) 0), (List.toArray [])⟩) ?_
    refine List.cons ((nat_lit 750), ⟨(.type "code"), none, (.fields (List.toArray [(.str (.ofString "split") 1240), (.str (.ofString "split") 1241), (.str (.ofString "/claim/cut.py") 1242), (.int 735 0), (.int 3 0), (.int 0 0), (.int 0 0), (.int 3 0), (.ref 745), (.bool true), (.int 318 0), (.ref 746), .none, (.ref 747), (.ref 748), (.ref 749), (.int 1247 0), (.int 735 0), (.str (.ofString "/claim/cut.py") 1248)])), (List.toArray [])⟩) ?_
    refine List.cons ((nat_lit 751), ⟨(.type "function"), none, (.func ⟨n751, (.ofString "split"), a751, (.stmts b751), s751, 3, [], (.ref 744), .none, .none, (.str (.ofString "cpy313.shlex") 1099), none, (.ref 750), .none, 0⟩), (List.toArray [])⟩) ?_
    refine List.cons ((nat_lit 752), ⟨(.type "tuple"), none, (.seq (List.toArray []) 0), (List.toArray [])⟩) ?_
    refine List.cons ((nat_lit 754), ⟨(.type "tuple"), none, (.seq (List.toArray [(.str (.ofString "split_command") 1253)]) 0), (List.toArray [])⟩) ?_
    refine List.cons ((nat_lit 755), ⟨(.type "tuple"), none, (.seq (List.toArray []) 0), (List.toArray [])⟩) ?_
    refine List.cons ((nat_lit 757), ⟨(.type "code"), none, (.fields (List.toArray [(.str (.ofString "join") 1250), (.str (.ofString "join") 1251), (.str (.ofString "/claim/cut.py") 1252), (.int 743 0), (.int 1 0), (.int 0 0), (.int 0 0), (.int 3 0), (.ref 752), (.bool true), (.int 318 0), (.ref 753), .none, (.ref 754), (.ref 755), (.ref 756), (.int 1254 0), (.int 743 0), (.str (.ofString "/claim/cut.py") 1255)])), (List.toArray [])⟩) ?_
    refine List.cons ((nat_lit 758), ⟨(.type "function"), none, (.func ⟨n758, (.ofString "join"), a758, (.stmts b758), s758, 3, [], .none, .none, .none, (.str (.ofString "cpy313.shlex") 1099), none, (.ref 757), .none, 0⟩), (List.toArray [])⟩) ?_
    refine List.cons ((nat_lit 759), ⟨(.type "builtin_function_or_method"), none, (.fields (List.toArray [(.builtin "re.Pattern.search"), (.ref 56)])), (List.toArray [])⟩) ?_
    refine List.cons ((nat_lit 760), ⟨(.type "tuple"), none, (.seq (List.toArray []) 0), (List.toArray [])⟩) ?_
    refine List.cons ((nat_lit 762), ⟨(.type "tuple"), none, (.seq (List.toArray [(.str (.ofString "s") 1263)]) 0), (List.toArray [])⟩) ?_
    refine List.cons ((nat_lit 763), ⟨(.type "tuple"), none, (.seq (List.toArray []) 0), (List.toArray [])⟩) ?_
    refine List.cons ((nat_lit 765), ⟨(.type "code"), none, (.fields (List.toArray [(.str (.ofString "quote") 1260), (.str (.ofString "quote") 1261), (.str (.ofString "/claim/cut.py") 1262), (.int 747 0), (.int 1 0), (.int 0 0), (.int 0 0), (.int 3 0), (.ref 760), (.bool true), (.int 318 0), (.ref 761), .none, (.ref 762), (.ref 763), (.ref 764), (.int 1264 0), (.int 747 0), (.str (.ofString "/claim/cut.py") 1265)])), (List.toArray [])⟩) ?_
    refine List.cons ((nat_lit 766), ⟨(.type "function"), none, (.func ⟨n766, (.ofString "quote"), a766, (.stmts b766), s766, 3, [], .none, .none, .none, (.str (.ofString "cpy313.shlex") 1099), none, (.ref 765), .none, 0⟩), (List.toArray [])⟩) ?_
    refine List.cons ((nat_lit 767), ⟨(.type "tuple"), none, (.seq (List.toArray []) 0), (List.toArray [])⟩) ?_
    refine List.cons ((nat_lit 769), ⟨(.type "tuple"), none, (.seq (List.toArray [(.str (.ofString "script") 1272), (.str (.ofString "words") 1273), (.str (.ofString "x") 1274)]) 0), (List.toArray [])⟩) ?_
    refine List.cons ((nat_lit 770), ⟨(.type "tuple"), none, (.seq (List.toArray []) 0), (List.toArray [])⟩) ?_
    refine List.cons ((nat_lit 772), ⟨(.type "code"), none, (.fields (List.toArray [(.str (.ofString "_law_words") 1269), (.str (.ofString "_law_words") 1270), (.str (.ofString "/claim/cut.py") 1271), (.int 754 0), (.int 1 0), (.int 0 0), (.int 0 0), (.int 3 0), (.ref 767), (.bool true), (.int 318 0), (.ref 768), .none, (.ref 769), (.ref 770), (.ref 771), (.int 1275 0), (.int 754 0), (.str (.ofString "/claim/cut.py") 1276)])), (List.toArray [])⟩) ?_
    refine List.cons ((nat_lit 773), ⟨(.type "function"), none, (.func ⟨n773, (.ofString "_law_words"), a773, (.stmts b773), s773, 3, [], .none, .none, .none, (.str (.ofString "law_il0144_01") 1267), none, (.ref 772), .none, 0⟩), (List.toArray [])⟩) ?_
    refine List.cons ((nat_lit 774), ⟨(.type "tuple"), none, (.seq (List.toArray []) 0), (List.toArray [])⟩) ?_
    refine List.cons ((nat_lit 777), ⟨(.type "code"), none, (.fields (List.toArray [(.str (.ofString "_law_is_bare") 1278), (.str (.ofString "_law_is_bare") 1279), (.str (.ofString "/claim/cut.py") 1280), (.int 764 0), (.int 1 0), (.int 0 0), (.int 0 0), (.int 3 0), (.ref 774), (.bool true), (.int 318 0), (.ref 775), .none, .none, .none, (.ref 776), (.int 1281 0), (.int 764 0), (.str (.ofString "/claim/cut.py") 1282)])), (List.toArray [])⟩) ?_
    refine List.cons ((nat_lit 778), ⟨(.type "function"), none, (.func ⟨n778, (.ofString "_law_is_bare"), a778, (.stmts b778), s778, 3, [], .none, .none, .none, (.str (.ofString "law_il0144_01") 1267), none, (.ref 777), .none, 0⟩), (List.toArray [])⟩) ?_
    refine List.cons ((nat_lit 779), ⟨(.type "tuple"), none, (.seq (List.toArray []) 0), (List.toArray [])⟩) ?_
    refine List.cons ((nat_lit 782), ⟨(.type "code"), none, (.fields (List.toArray [(.str (.ofString "_law_tokens") 1284), (.str (.ofString "_law_tokens") 1285), (.str (.ofString "/claim/cut.py") 1286), (.int 767 0), (.int 1 0), (.int 0 0), (.int 0 0), (.int 3 0), (.ref 779), (.bool true), (.int 318 0), (.ref 780), .none, .none, .none, (.ref 781), (.int 1287 0), (.int 767 0), (.str (.ofString "/claim/cut.py") 1288)])), (List.toArray [])⟩) ?_
    refine List.cons ((nat_lit 783), ⟨(.type "function"), none, (.func ⟨n783, (.ofString "_law_tokens"), a783, (.stmts b783), s783, 3, [], .none, .none, .none, (.str (.ofString "law_il0144_01") 1267), none, (.ref 782), .none, 0⟩), (List.toArray [])⟩) ?_
    refine List.cons ((nat_lit 784), ⟨(.type "tuple"), none, (.seq (List.toArray []) 0), (List.toArray [])⟩) ?_
    refine List.cons ((nat_lit 786), ⟨(.type "tuple"), none, (.seq (List.toArray [(.str (.ofString "some") 1293), (.str (.ofString "others") 1294), (.str (.ofString "lacking") 1295), (.str (.ofString "k") 1296)]) 0), (List.toArray [])⟩) ?_
    refine List.cons ((nat_lit 787), ⟨(.type "tuple"), none, (.seq (List.toArray []) 0), (List.toArray [])⟩) ?_
    refine List.cons ((nat_lit 789), ⟨(.type "code"), none, (.fields (List.toArray [(.str (.ofString "_law_lacking") 1290), (.str (.ofString "_law_lacking") 1291), (.str (.ofString "/claim/cut.py") 1292), (.int 779 0), (.int 2 0), (.int 0 0), (.int 0 0), (.int 3 0), (.ref 784), (.bool true), (.int 318 0), (.ref 785), .none, (.ref 786), (.ref 787), (.ref 788), (.int 1297 0), (.int 779 0), (.str (.ofString "/claim/cut.py") 1298)])), (List.toArray [])⟩) ?_
    refine List.cons ((nat_lit 790), ⟨(.type "function"), none, (.func ⟨n790, (.ofString "_law_lacking"), a790, (.stmts b790), s790, 3, [], .none, .none, .none, (.str (.ofString "law_il0144_01") 1267), none, (.ref 789), .none, 0⟩), (List.toArray [])⟩) ?_
    refine List.cons ((nat_lit 791), ⟨(.type "tuple"), none, (.seq (List.toArray []) 0), (List.toArray [])⟩) ?_
    refine List.cons ((nat_lit 793), ⟨(.type "tuple"), none, (.seq (List.toArray [(.str (.ofString "some") 1303), (.str (.ofString "others") 1304), (.str (.ofString "over") 1305), (.str (.ofString "k") 1306)]) 0), (List.toArray [])⟩) ?_
    refine List.cons ((nat_lit 794), ⟨(.type "tuple"), none, (.seq (List.toArray []) 0), (List.toArray [])⟩) ?_
    refine List.cons ((nat_lit 796), ⟨(.type "code"), none, (.fields (List.toArray [(.str (.ofString "_law_over") 1300), (.str (.ofString "_law_over") 1301), (.str (.ofString "/claim/cut.py") 1302), (.int 785 0), (.int 2 0), (.int 0 0), (.int 0 0), (.int 3 0), (.ref 791), (.bool true), (.int 318 0), (.ref 792), .none, (.ref 793), (.ref 794), (.ref 795), (.int 1307 0), (.int 785 0), (.str (.ofString "/claim/cut.py") 1308)])), (List.toArray [])⟩) ?_
    refine List.cons ((nat_lit 797), ⟨(.type "function"), none, (.func ⟨n797, (.ofString "_law_over"), a797, (.stmts b797), s797, 3, [], .none, .none, .none, (.str (.ofString "law_il0144_01") 1267), none, (.ref 796), .none, 0⟩), (List.toArray [])⟩) ?_
    refine List.cons ((nat_lit 798), ⟨(.type "tuple"), none, (.seq (List.toArray []) 0), (List.toArray [])⟩) ?_
    refine List.cons ((nat_lit 800), ⟨(.type "tuple"), none, (.seq (List.toArray [(.str (.ofString "script") 1313), (.str (.ofString "words") 1314), (.str (.ofString "tokens") 1315), (.str (.ofString "line") 1316), (.str (.ofString "plain") 1317), (.str (.ofString "read") 1318), (.str (.ofString "missing") 1319), (.str (.ofString "left") 1320), (.str (.ofString "again") 1321), (.str (.ofString "anew") 1322), (.str (.ofString "gone") 1323), (.str (.ofString "kept") 1324)]) 0), (List.toArray [])⟩) ?_
    refine List.cons ((nat_lit 801), ⟨(.type "tuple"), none, (.seq (List.toArray []) 0), (List.toArray [])⟩) ?_
    refine List.cons ((nat_lit 803), ⟨(.type "code"), none, (.fields (List.toArray [(.str (.ofString "law") 1310), (.str (.ofString "law") 1311), (.str (.ofString "/claim/cut.py") 1312), (.int 791 0), (.int 1 0), (.int 0 0), (.int 0 0), (.int 3 0), (.ref 798), (.bool true), (.int 318 0), (.ref 799), .none, (.ref 800), (.ref 801), (.ref 802), (.int 1325 0), (.int 791 0), (.str (.ofString "/claim/cut.py") 1326)])), (List.toArray [])⟩) ?_
    refine List.cons ((nat_lit 804), ⟨(.type "function"), none, (.func ⟨n804, (.ofString "law"), a804, (.stmts b804), s804, 3, [], .none, .none, .none, (.str (.ofString "law_il0144_01") 1267), none, (.ref 803), .none, 0⟩), (List.toArray [])⟩) ?_
    exact List.nil)
    _ _ _ _ rfl
    _ _ _ _ rfl
    _ _ _ _ rfl
    _ _ _ _ rfl
    _ _ _ _ rfl
    _ _ _ _ rfl
    _ _ _ _ rfl
    _ _ _ _ rfl
    _ _ _ _ rfl
    _ _ _ _ rfl
    _ _ _ _ rfl
    _ _ _ _ rfl
    _ _ _ _ rfl
    _ _ _ _ rfl
    _ _ _ _ rfl
    _ _ _ _ rfl
    _ _ _ _ rfl
    _ _ _ _ rfl
    _ _ _ _ rfl
    _ _ _ _ rfl
    _ _ _ _ rfl
    _ _ _ _ rfl
    _ _ _ _ rfl
    _ _ _ _ rfl
    _ _ _ _ rfl
    _ _ _ _ rfl
    _ _ _ _ rfl
    _ _ _ _ rfl
    _ _ _ _ rfl
    _ _ _ _ rfl
    _ _ _ _ rfl
    _ _ _ _ rfl
noncomputable def hd.heap_39 : Params → Frag := by
  intro P
  refine (fun (l : Frag) (_ : hd.heap_0 P = l) => l) ?l ?h
  case h =>
    conv => lhs; whnf
noncomputable def hd.view_39 : Program := view PySem.Challenge.pw_il0144_01 [0, 1, 2, 4, 5, 7, 8, 9, 10, 11, 12, 13, 14, 16, 17, 18, 19, 21, 22, 24, 26, 27, 28, 29, 31, 32, 33, 34, 35, 36]
noncomputable abbrev LQ : List PySem.Str := [Str.ofString "_twin_re_1", Str.ofString "UnsupportedOperation", Str.ofString "IOBase", Str.ofString "BufferedIOBase", Str.ofString "TextIOBase", Str.ofString "BytesIO", Str.ofString "StringIO", Str.ofString "join_path", Str.ofString "shlex", Str.ofString "split", Str.ofString "join_shlex", Str.ofString "_find_unsafe"]
abbrev PW : Program := PySem.Challenge.pw_il0144_01
noncomputable def asK : List Addr := [2, 3, 38, 40, 41, 43, 44, 45, 47, 48, 50, 51, 55, 56, 57, 59, 60, 62, 63, 64, 66, 67, 69, 70, 71, 78, 79, 80, 81, 91, 93, 94, 96, 97, 98, 99, 100, 101, 102, 103, 106, 113, 114, 115, 118, 125, 126, 127, 355, 356, 357, 360, 367, 368, 370, 371, 373, 374, 375, 377, 378, 380, 381, 382, 384, 385, 387, 388, 389, 391, 392, 394, 395, 396, 398, 399, 401, 402, 543, 544, 546, 547, 549, 550, 551, 552, 554, 555, 557, 558, 603, 604, 656, 657, 659, 660, 662, 663, 664, 666, 667, 669, 670, 671, 672, 674, 675, 677, 678, 679, 680, 682, 683, 685, 686, 687, 689, 690, 692, 693, 694, 696, 697, 699, 700, 701, 703, 704, 706, 707, 708, 710, 711, 713, 714, 715, 716, 718, 719, 721, 722, 723, 725, 726, 728, 729, 730, 732, 733, 735, 736, 737, 738, 739, 740, 741, 744, 745, 747, 748, 750, 751, 752, 754, 755, 757, 758, 759, 760, 762, 763, 765, 766, 767, 769, 770, 772, 773, 774, 777, 778, 779, 782, 783, 784, 786, 787, 789, 790, 791, 793, 794, 796, 797, 798, 800, 801, 803, 804]
theorem asK_eq (P : Params) : asK = (hd.heap_39 P).map (·.1) := by kernel_rfl
theorem fo_eq (w : World) : fencedOpening treeTable PW w 10408 = (Fast.tw10274390034422433532 Fast.tw14364793385576792824 (opening PW) w 10408 (Fast.tw1435165496053646825 (opening PW)).1 (Fast.tw1435165496053646825 (opening PW)).2).bind (Fast.tw14289696077712309145 PW) := by
  unfold fencedOpening
  rw [Fast.te10274390034422433532, Fast.te14364793385576792824, Fast.te1435165496053646825, Fast.te14289696077712309145]
theorem st_eq (w : World) : stepT (denote treeTable) PW w = Fast.tw10156331382660048174 (Fast.tw11892475500146522536 Fast.tw14364793385576792824) PW w := by
  rw [Fast.te10156331382660048174, Fast.te11892475500146522536, Fast.te14364793385576792824]
noncomputable abbrev XtQ : Shared → Bool := fun s => xlAt hd.view_39 [] s && recOk (RowW.records (OpenRow.toRowW (OpenLaw.row PySem.Challenge.rw_il0144_01))) s
theorem xt_of {w : World} (s : SharedT) (h : (Fast.tw4187177175401517315 hd.view_39 LQ (Fast.tw5923862056798008813 PW.main.body) XtQ true s.abs, asK.map (seesT s)) = (openGood hd.view_39 LQ, (hd.heap_39 w.params).map fun p => some p.2)) : (openSeen hd.view_39 LQ (importedModules PW.main.body) XtQ true s.abs, asK.map s.abs.heap.get?) = (openGood hd.view_39 LQ, (hd.heap_39 w.params).map fun p => some p.2) := by
  rw [Fast.te4187177175401517315, Fast.te5923862056798008813]
  exact congr (congrArg Prod.mk (Prod.mk.inj h).1) (sees_all (fun _ _ => seesT_some) (Prod.mk.inj h).2)
set_option maxHeartbeats 100000000 in
theorem left2 (w : World) : leftG ((Fast.tw10274390034422433532 Fast.tw14364793385576792824 (opening PW) w 10408 (Fast.tw1435165496053646825 (opening PW)).1 (Fast.tw1435165496053646825 (opening PW)).2).bind (Fast.tw14289696077712309145 PW)) (Fast.tw10156331382660048174 (Fast.tw11892475500146522536 Fast.tw14364793385576792824) PW w) Fast.tw6613529449190102663 (chkOf PW) (fun s => (Fast.tw4187177175401517315 hd.view_39 LQ (Fast.tw5923862056798008813 PW.main.body) XtQ true s.abs, asK.map (seesT s))) 10408 (topStub PW) = some (openGood hd.view_39 LQ, (hd.heap_39 w.params).map fun p => some p.2) := by
  kernel_rfl
theorem hd_left : LeftO PW hd.view_39 LQ XtQ (fun s => asK.map s.heap.get?) (fun w => (hd.heap_39 w.params).map fun p => some p.2) 10408 := fun w =>
  leftG_of (fo_eq w) (st_eq w) Fast.te6613529449190102663 rfl xt_of (left2 w)
set_option maxHeartbeats 100000000 in
theorem hd_said : PySem.Challenge.rw_il0144_01.wellSaid = true := by
  rw [Fast.te9446332074065402090]
  unfold Fast.tw9446332074065402090
  repeat refine look_both ?_ ?_
  all_goals decide +kernel
def Hold (P : Prop) : Prop := P
structure StopHere : Prop where
theorem hold {P : Prop} (h : Hold P) : P := h
/-- the loose names of the view -/
noncomputable abbrev LW : List Str := looseW hd.view_39 [Str.ofString "_twin_re_1", Str.ofString "UnsupportedOperation", Str.ofString "IOBase", Str.ofString "BufferedIOBase", Str.ofString "TextIOBase", Str.ofString "BytesIO", Str.ofString "StringIO", Str.ofString "join_path", Str.ofString "shlex", Str.ofString "split", Str.ofString "join_shlex", Str.ofString "_find_unsafe"]
noncomputable abbrev ent (w : World) (x : String) (t : Tok) (v : Value) : DictEntry := ⟨PyData.keyHash w.params (Str.ofString x), .str (Str.ofString x) t, v⟩
noncomputable abbrev ioD (w : World) (k : Nat → Tok) (buf : Str) (pos : Int) (t : Tok) : Obj := dictOf [ent w "_StringIO__newline" (k 30) (.str (Str.ofString "\n") (k 33)), ent w "_StringIO__buf" (k 31) (.str buf (k 34)), ent w "_StringIO__pos" (k 32) (.int pos t)] 3
noncomputable abbrev shD (w : World) (k : Nat → Tok) (io pb fs : Addr) (px : Bool) (eof : Value) (cm wc : Str) (st : Value) (ln : Int) (tln : Tok) (tok : Str) (ttk : Tok) : Obj := dictOf [ent w "instream" (k 0) (.ref io), ent w "infile" (k 1) .none, ent w "posix" (k 2) (.bool px), ent w "eof" (k 3) eof, ent w "commenters" (k 4) (.str cm (k 20)), ent w "wordchars" (k 5) (.str wc (k 21)), ent w "whitespace" (k 6) (.str (Str.ofString " \t\r\n") (k 22)), ent w "whitespace_split" (k 7) (.bool true), ent w "quotes" (k 8) (.str (Str.ofString "'\"") (k 23)), ent w "escape" (k 9) (.str (Str.ofString "\\") (k 24)), ent w "escapedquotes" (k 18) (.str (Str.ofString "\"") (k 28)), ent w "state" (k 10) st, ent w "pushback" (k 11) (.ref pb), ent w "lineno" (k 12) (.int ln tln), ent w "debug" (k 13) (.int 0 (k 25)), ent w "token" (k 14) (.str tok ttk), ent w "filestack" (k 15) (.ref fs), ent w "source" (k 16) .none, ent w "_punctuation_chars" (k 17) (.str (Str.ofString "") (k 26))] 19

theorem news_tail {h₀ h : Heap} {L : Addr} {x : Addr × Obj} {l : List (Addr × Obj)} (N : News h₀ L h (x :: l)) : News h₀ L h l := fun p hp => N p (.tail _ hp)
local macro_rules | `(tactic| k_room) => `(tactic| ((try simp only [depth_under_make, depth_under_kw, depth_in1, depth_deeper, depth_caller] at *); (try dsimp only [ktrTop] at *); (simp only [recursionLimit] at *); omega))
local macro_rules | `(tactic| k_units) => `(tactic| (have hcL9 := cLine_is; (try simp only [units_in1, units_deeper, Around.mark_units, units_caller] at *); (try dsimp only [ktrTop] at *); omega))
local macro_rules | `(tactic| walk_at "my step") => `(tactic| (first | (k_unfold; (try dsimp only)) | (k_end; wrow_close) | walk1 | (dsimp only; walk1) | (leave1; walk_say "STEP leave1"; try dsimp only)))
local macro_rules | `(tactic| walk_at "my enter") => `(tactic| k_dflt (first | (refine' code_def ?k1 ?k2 ?k3 ?k4 ?k5 ?kA ?kF ?kK ?k6 ?k7 ?k8 ?k9 ?kB ?_ ?c2 ?c3 ?c4 ?c5; (case kA => exact rfl); (case kF => exact rfl); (case kK => first | exact rfl | assumption); (case k1 => k_asm); (case k2 => k_asm); (case k3 => k_asm); (case k4 => k_asm); (case k5 => k_asm); (case k6 => k_is); (case k7 => k_is); (case k8 => k_room); (case k9 => first | exact BindsTo.of_eq rfl | exact binds_K (by k_in) rfl (by k_is) rfl rfl rfl); (case c5 => decide); (case kB => exact locs rfl); (case c2 => exact rfl); (case c3 => exact rfl); (case c4 => exact rfl); k_whole; intro g' L' h' FG' F' N' B' X' T'; (try dsimp only); (try k_lift B'); (try k_fold)) | (refine' code_defC ?k1 ?k2 ?k3 ?k4 ?k5 ?kA ?kF ?kK ?k6 ?k7 ?k8 ?k9 ?kB ?kD ?_ ?c2 ?c3 ?c4; (case kA => exact rfl); (case kF => exact rfl); (case kK => first | exact rfl | assumption); (case k1 => k_asm); (case k2 => k_asm); (case k3 => k_asm); (case k4 => k_asm); (case k5 => k_asm); (case k6 => k_is); (case k7 => k_is); (case k8 => k_room); (case k9 => first | exact BindsTo.of_eq rfl | exact binds_K (by k_in) rfl (by k_is) rfl rfl rfl); (case kB => exact rfl); (case kD => decide +kernel); (case c2 => exact rfl); (case c3 => exact rfl); (case c4 => exact rfl); k_whole; intro g' L' h' tk' cells' FG' F' N' Y' B' X' T' l1; (try k_lt l1); k_cells Y'; (try simp only [List.cons_append, List.nil_append] at N'); (try dsimp only); (try k_lift B'); (try k_fold))))
local macro_rules | `(tactic| k_all) => `(tactic| assumption)
local macro_rules | `(tactic| walk_at "my asm") => `(tactic| first | k_asm | exact news_tail (by k_asm) | exact news_tail (news_tail (by k_asm)) | exact news_tail (news_tail (news_tail (by k_asm))) | exact news_tail (news_tail (news_tail (news_tail (by k_asm)))))
theorem sp_is : Str.ofString " " = Str.mk #[32] := by decide +kernel
theorem sl_two (c : Nat) : Txt.slice (Str.mk #[c, 32]) none (some (-1)) = Str.mk #[c] := by
  have e : PySem.Builtin.Str.strSliceIndices none (some (-1)) 1 2 = [0] := by decide +kernel
  have hl : (Str.mk #[c, 32]).length = 2 := rfl
  unfold Txt.slice
  rw [hl, e]
  rfl
theorem sl_one {buf : Str} {p : Nat} {c : Nat} {e : Int} (hc : buf.cps[p]? = some c) (he : e = (p : Int) + 1) : Txt.slice (Txt.slice buf (some (p : Int)) (some e) ++ Str.ofString " ") none (some (-1)) = Str.mk #[c] := by
  obtain ⟨h1, h2⟩ := Array.getElem?_eq_some_iff.mp hc
  have e1 : Txt.slice buf (some (p : Int)) (some ((p : Int) + 1)) = Str.mk #[c] := by
    rw [beq_iff_eq.mp (slice_one_closes (x := buf) (n := (p : Int)) (by omega) (by have : buf.length = buf.cps.size := rfl; omega))]
    simp [Array.getD, h1, h2]
  rw [he, e1, sp_is]
  exact sl_two c
section
variable {w : World} {p0 : Program} {lo0 : List Str} {mean : ExcName → Option Value} {mg mb : Str → Option Value} {dp un : Nat} {gd : Option (List Code)} {cn : Str} {cs : Scope} {a : Addr} {ccd : Value} {cl : List (Str × Addr)} {outer : List Env} {A₀ : Around} {base h₀ : Heap} {L : Addr} {m : Str → Option Value} {s : Shared} {Q E : Value → Shared → Prop}
  (B : Below A₀ base outer h₀) (F : Fr h₀ L s.heap m) (X : (hd.heap_39 w.params).In h₀) (T : Top p0 lo0 mean mg mb h₀) (hk : cs.kind = .function)
include B F X T hk
theorem read_ch {io dio x1 x2 : Nat} {o1 o2 : Obj} {rest : List (Addr × Obj)} {k : Nat → Tok} {t6 t7 : Tok} {buf : Str} {p c : Nat}
  (N : News h₀ L s.heap ((x1, o1) :: (x2, o2) :: (io, instObj 604 dio) :: (dio, ioD w k buf p t6) :: rest))
  (h1 : x1 ≠ dio) (h2 : x2 ≠ dio) (h3 : io ≠ dio) (hr : ∀ q ∈ rest, q.1 ≠ dio) (hdp : dp + 8 < recursionLimit) (hun : un + 40 < cLine) (hc : buf.cps[p]? = some c) (hb : buf.length ≤ 100000)
  (hret : ∀ t t' h' tk', Fr h₀ L h' m → News h₀ L h' ((x1, o1) :: (x2, o2) :: (io, instObj 604 dio) :: (dio, ioD w k buf (p + 1 : Nat) t') :: rest) → Q (.str (Str.mk #[c]) t) { s with heap := h', toks := tk' }) :
  wpAny (model PySem.Challenge.rw_il0144_01.row.prog w) (ktrTop dp un gd cn cs L a ccd cl outer) (call (.ref 550) [.ref io, .int 1 t7]) Q E s := by
  have hlt : p < buf.length := by
    have := Array.getElem?_eq_some_iff.mp hc
    exact this.1
  revert X; k_fill; intro X
  refine wpAny_call ?_
  walk_at "my enter"
  k_steps
  · rw [sl_one hc rfl]
    exact hret _ _ _ _ (by k_asm) (by k_asm)
  · rw [sl_one hc (by omega)]
    exact hret _ _ _ _ (by k_asm) (by rw [show ((p + 1 : Nat) : Int) = (buf.length : Int) by omega]; k_asm)
theorem read_eof {io dio x1 x2 : Nat} {o1 o2 : Obj} {rest : List (Addr × Obj)} {k : Nat → Tok} {t6 t7 : Tok} {buf : Str}
  (N : News h₀ L s.heap ((x1, o1) :: (x2, o2) :: (io, instObj 604 dio) :: (dio, ioD w k buf buf.length t6) :: rest))
  (hdp : dp + 8 < recursionLimit) (hun : un + 40 < cLine) (hb : buf.length ≤ 100000)
  (hret : ∀ t h' tk', Fr h₀ L h' m → News h₀ L h' ((x1, o1) :: (x2, o2) :: (io, instObj 604 dio) :: (dio, ioD w k buf buf.length t6) :: rest) → Q (.str (Str.ofString "") t) { s with heap := h', toks := tk' }) :
  wpAny (model PySem.Challenge.rw_il0144_01.row.prog w) (ktrTop dp un gd cn cs L a ccd cl outer) (call (.ref 550) [.ref io, .int 1 t7]) Q E s := by
  revert X; k_fill; intro X
  refine wpAny_call ?_
  walk_at "my enter"
  k_steps
  exact hret _ _ _ (by k_asm) (by k_asm)
end
/-- a sign stands in a text -/
def inS (x : Str) (c : Nat) : Bool := decide (c ∈ x.cps.toList)
theorem inS_empty (c : Nat) : inS (Str.ofString "") c = false := by
  have e : (Str.ofString "").cps.toList = [] := by decide +kernel
  unfold inS
  rw [e]
  simp
theorem in_one {prog : Program} {w : World} {A : Around} {E : Value → Shared → Prop} {s : Shared} {x : Str} {c : Nat} {t u : Tok} {Q : Value → Shared → Prop} (h : Q (.bool (inS x c)) s) : wpAny (model prog w) A (compareOp .In (.str (Str.mk #[c]) u) (.str x t)) Q E s := by
  have e : Txt.contains x (Str.mk #[c]) = inS x c := StrLaws.found_one x c
  exact SB.contains (by rw [e]; exact h)
theorem ite_yes {b : Bool} {P Q : Prop} (hb : b = true) (h : P) : if b = true then P else Q := by rw [if_pos hb]; exact h
theorem ite_no {b : Bool} {P Q : Prop} (hb : b = false) (h : Q) : if b = true then P else Q := by rw [if_neg (by rw [hb]; decide)]; exact h
noncomputable def fnD (w : World) (a : Nat) : Option FuncData := match (hd.heap_39 w.params).lookup a with
  | some o => (match o.data with | .func fd => some fd | _ => none)
  | none => none
noncomputable def rtB (w : World) : List Stmt := match fnD w 707 with
  | some fd => (match fd.body with | .stmts (_ :: _ :: .While _ b _ _ :: _) => b | _ => [])
  | none => []
noncomputable def rtScope (w : World) : Scope := match fnD w 707 with
  | some fd => fd.scope
  | none => default
noncomputable def rtChain (w : World) : List Stmt := match rtB w with
  | _ :: _ :: _ :: r => r
  | _ => []
abbrev rtEnv (sc : Scope) (L : Addr) : Env := envOf (Str.ofString "shlex.read_token") sc L 707 (.ref 706)
/-- the frame of read_token -/
@[reducible] def rtM (lex : Nat) (nc : Option Value) (te : Tok) (qd : Bool) : Str → Option Value := fun y => if y = Str.ofString "nextchar" then nc else if y = Str.ofString "escapedstate" then some (.str (Str.ofString " ") te) else if y = Str.ofString "quoted" then some (.bool qd) else if y = Str.ofString "self" then some (.ref lex) else none
theorem join_ln {w : World} {A : Around} {E : Value → Shared → Prop} {s : Shared} {h₀ : Heap} {L : Addr} {m : Str → Option Value} {lex dlex : Nat} {o : Obj} {rest : List (Addr × Obj)} {k : Nat → Tok} {io pb fs : Addr} {px : Bool} {eof st : Value} {cm wc tok : Str} {ln : Int} {tln ttk : Tok} {x : Stmt} {more : List Stmt} {env : Env} {M : Model} {Q : Flow → Shared → Prop}
  (F : Fr h₀ L s.heap m) (N : News h₀ L s.heap ((lex, o) :: (dlex, shD w k io pb fs px eof cm wc st ln tln tok ttk) :: rest))
  (h1 : wpAny M A (exec x env) (fun f s' => f = .next ∧ ∃ h' tk' ln' tln', s' = { s with heap := h', toks := tk' } ∧ Fr h₀ L h' m ∧ News h₀ L h' ((lex, o) :: (dlex, shD w k io pb fs px eof cm wc st ln' tln' tok ttk) :: rest)) E s)
  (h2 : ∀ h' tk' ln' tln', Fr h₀ L h' m → News h₀ L h' ((lex, o) :: (dlex, shD w k io pb fs px eof cm wc st ln' tln' tok ttk) :: rest) → wpAny M A (execs more env) Q E { s with heap := h', toks := tk' }) : wpAny M A (execs (x :: more) env) Q E s := by
  refine wpAny_execs_cons (wpAny_mono h1 ?_ fun _ _ e => e)
  rintro f s' ⟨rfl, h', tk', ln', tln', rfl, F', N'⟩
  exact h2 _ _ _ _ F' N'
theorem rtM_nc {lex : Nat} {nc : Option Value} {te : Tok} {qd : Bool} {v : Value} : (fun y => if y = Str.ofString "nextchar" then some v else rtM lex nc te qd y) = rtM lex (some v) te qd := by
  funext y
  unfold rtM
  by_cases h : y = Str.ofString "nextchar"
  · simp only [h, if_true]
  · simp only [h, if_false]
theorem rtM_qd {lex : Nat} {nc : Option Value} {te : Tok} {qd b : Bool} : (fun y => if y = Str.ofString "quoted" then some (Value.bool b) else rtM lex nc te qd y) = rtM lex nc te b := by
  funext y
  unfold rtM
  by_cases h : y = Str.ofString "quoted"
  · subst h
    rw [if_pos rfl, if_neg (by decide +kernel), if_neg (by decide +kernel), if_pos rfl]
  · simp only [h, if_false]
theorem truthy_one {prog : Program} {w : World} {A : Around} {E : Value → Shared → Prop} {s : Shared} {c : Nat} {t : Tok} {Q : Bool → Shared → Prop} (h : ∀ k, Q true { s with toks := k }) : wpAny (model prog w) A (truthy (.str (Str.mk #[c]) t)) Q E s :=
  KXt.truthy (b := true) rfl (show 1 ≤ 16777216 by decide) h
theorem truthy_pos {prog : Program} {w : World} {A : Around} {E : Value → Shared → Prop} {s : Shared} {x : Str} {t : Tok} {Q : Bool → Shared → Prop} (hx : x.length > 0) (hl : x.length ≤ 100000) (h : ∀ k, Q true { s with toks := k }) : wpAny (model prog w) A (truthy (.str x t)) Q E s :=
  KXt.truthy (b := true) (by simp; omega) (by omega) h
theorem notin_one {prog : Program} {w : World} {A : Around} {E : Value → Shared → Prop} {s : Shared} {x : Str} {c : Nat} {t u : Tok} {Q : Value → Shared → Prop} (hx : inS x c = false) (h : Q (.bool true) s) : wpAny (model prog w) A (compareOp .NotIn (.str (Str.mk #[c]) u) (.str x t)) Q E s := by
  have e : Txt.contains x (Str.mk #[c]) = inS x c := StrLaws.found_one x c
  exact SB.notContains (by rw [e, hx]; exact h)
theorem one_eq {c d : Nat} (h : (Str.mk #[c] == Str.mk #[d]) = true) : c = d := by
  have := beq_iff_eq.mp h
  simpa using this
theorem one_ne {c d : Nat} (h : (Str.mk #[c] == Str.mk #[d]) = false) : c ≠ d := by
  intro e
  subst e
  simp at h
theorem fr_qd {h₀ h : Heap} {L : Addr} {lex : Nat} {nc : Option Value} {te : Tok} {qd b : Bool} (F : Fr h₀ L h (fun y => if y = Str.ofString "quoted" then some (Value.bool b) else rtM lex nc te qd y)) : Fr h₀ L h (rtM lex nc te b) := by
  rw [rtM_qd] at F
  exact F
section S1
local macro_rules | `(tactic| walk_at "call ref") => `(tactic| (k_here; (with_reducible show wpAny _ _ (call (Value.ref 550) _) _ _ _); k_dflt (first
 | (refine' read_ch ?kB ?kF ?kX ?kT ?kk ?kN ?k1 ?k2 ?k3 ?k4 ?k5 ?k6 ?k7 ?k8 ?_; (case kB => k_asm); (case kF => k_asm); (case kX => k_asm); (case kT => k_asm); (case kk => rfl); (case kN => k_asm); (case k7 => assumption); (case k1 => omega); (case k2 => omega); (case k3 => omega); (case k4 => (simp only [List.mem_cons, forall_eq_or_imp]; first | assumption | (refine ⟨?_, ?_, ?_⟩ <;> first | assumption | omega))); (case k5 => k_room); (case k6 => k_units); (case k8 => omega); intro v9 t9 h9 tk9 F9 N9; (try dsimp only))
 | (refine' read_eof ?kB ?kF ?kX ?kT ?kk ?kN ?k5 ?k6 ?k8 ?_; (case kB => k_asm); (case kF => k_asm); (case kX => k_asm); (case kT => k_asm); (case kk => rfl); (case kN => k_asm); (case k5 => k_room); (case k6 => k_units); (case k8 => omega); intro v9 h9 tk9 F9 N9; (try dsimp only)))))
local macro_rules | `(tactic| walk_at "exec While") => `(tactic| (k_here; (with_reducible show wpAny _ _ (exec (Stmt.While (Expr.Constant _ _ _) _ _ _) _) _ _ _); refine wpAny_While ?_))
local macro_rules | `(tactic| walk_at "compareOp In str str") => `(tactic| ((with_reducible show wpAny _ _ (compareOp CmpOp.In (Value.str (Str.mk #[_]) _) (Value.str _ _)) _ _ _); refine in_one ?_))
local macro_rules | `(tactic| walk_at "truthy str") => `(tactic| first | ((with_reducible show wpAny _ _ (truthy (Value.str (Str.mk #[_]) _)) _ _ _); refine truthy_one ?_; intro k9) | (refine' truthy_pos ?h ?h2 ?_; (case h => with_reducible assumption); (case h2 => with_reducible assumption); intro k9))
local macro_rules | `(tactic| walk_at "ite") => `(tactic| (k_closed; k_dflt (first | refine ite_yes (by decide +kernel) ?_ | refine ite_no (by decide +kernel) ?_)))
local macro_rules | `(tactic| walk_at "ite") => `(tactic| first | (with_reducible refine ite_tt ?_) | (with_reducible refine ite_ff ?_) | (with_reducible refine ite_yes ?h ?_; (case h => with_reducible assumption)) | (with_reducible refine ite_no ?h ?_; (case h => with_reducible assumption)))
local macro_rules | `(tactic| walk_at "execs cons If") => `(tactic| (k_here; (with_reducible show wpAny _ _ (execs (Stmt.If _ [Stmt.AugAssign (Expr.Attribute _ (Str.ofString "lineno") _) _ _ _] [] _ :: _) _) _ _ _); k_dflt (refine' join_ln ?kF ?kN ?_ ?_; (case kF => k_asm); (case kN => k_asm)); rotate_left 1; (intro h9 tk9 ln9 tln9 F9 N9; (try dsimp only); (try k_sweep)); rotate_left 1))
local macro_rules | `(tactic| walk_at "execs cons If") => `(tactic| ((with_reducible rename StopHere => hM9); (with_reducible show wpAny _ _ (execs (Stmt.If (Expr.Compare (Expr.Attribute _ (Str.ofString "state") _) [CmpOp.Is] _ _) _ _ _ :: _) _) _ _ _); refine hold ?_))
local macro_rules | `(tactic| walk_at "compareOp NotIn str str") => `(tactic| ((with_reducible show wpAny _ _ (compareOp CmpOp.NotIn (Value.str (Str.mk #[_]) _) (Value.str _ _)) _ _ _); refine' notin_one ?h ?_; (case h => with_reducible assumption)))
local macro_rules | `(tactic| walk_at "WhlIf") => `(tactic| first | (refine' WhlIf.no ?h ?_; (case h => with_reducible assumption)) | (refine' WhlIf.yes ?h ?_; (case h => with_reducible assumption)))
section
variable {w : World} {p0 : Program} {lo0 : List Str} {mean : ExcName → Option Value} {mg mb : Str → Option Value} {dp un : Nat} {gd : Option (List Code)} {outer : List Env} {A₀ : Around} {base h₀ : Heap} {L : Addr} {s : Shared} {Q : Flow → Shared → Prop} {E : Value → Shared → Prop}
  {lex dlex io dio pb fs : Nat} {rest : List (Addr × Obj)} {opb ofs : Obj} {k : Nat → Tok} {t6 tln ttk te : Tok} {buf cm wc tok : Str} {p c : Nat} {ln : Int} {px qd : Bool} {eof st : Value} {nc : Option Value}
  {bd ch : List Stmt} {sc : Scope} (B : Below A₀ base outer h₀) (X : (hd.heap_39 w.params).In h₀) (T : Top p0 lo0 mean mg mb h₀) (hbd : rtB w = bd) (hch : rtChain w = ch) (hsc : rtScope w = sc)
include B X T hbd hch hsc
theorem rt_pre_ch (F : Fr h₀ L s.heap (rtM lex nc te qd))
  (N : News h₀ L s.heap ((lex, instObj 739 dlex) :: (dlex, shD w k io pb fs px eof cm wc st ln tln tok ttk) :: (io, instObj 604 dio) :: (dio, ioD w k buf p t6) :: (pb, opb) :: (fs, ofs) :: rest))
  (hc : buf.cps[p]? = some c) (hne : lex ≠ dlex) (hne1 : lex ≠ dio) (hne2 : dlex ≠ dio) (hne3 : io ≠ dio) (hne4 : pb ≠ dio) (hne5 : fs ≠ dio) (hr1 : ∀ q ∈ rest, q.1 ≠ dio)
  (hdl1 : io ≠ dlex) (hdl2 : pb ≠ dlex) (hdl3 : fs ≠ dlex) (hdl4 : ∀ q ∈ rest, q.1 ≠ dlex)
  (hdp : dp + 20 < recursionLimit) (hun : un + 80 < cLine) (hb : buf.length ≤ 100000)
  (hret : ∀ h' tk' t t6' ln' tln', Fr h₀ L h' (rtM lex (some (.str (Str.mk #[c]) t)) te qd) → News h₀ L h' ((lex, instObj 739 dlex) :: (dlex, shD w k io pb fs px eof cm wc st ln' tln' tok ttk) :: (io, instObj 604 dio) :: (dio, ioD w k buf (p + 1 : Nat) t6') :: (pb, opb) :: (fs, ofs) :: rest) →
    wpAny (model PySem.Challenge.rw_il0144_01.row.prog w) (ktrTop dp un gd (Str.ofString "shlex.read_token") sc L 707 (.ref 706) [] outer) (execs ch (rtEnv sc L)) Q E { s with heap := h', toks := tk' }) :
  wpAny (model PySem.Challenge.rw_il0144_01.row.prog w) (ktrTop dp un gd (Str.ofString "shlex.read_token") sc L 707 (.ref 706) [] outer) (execs bd (rtEnv sc L)) Q E s := by
  subst hbd hch hsc
  revert X; k_fill; intro X
  revert hret
  unfold rtChain rtB rtScope fnD
  rw [show (hd.heap_39 w.params).lookup 707 = some _ from by k_is]
  dsimp only
  intro hret
  have hStop : StopHere := ⟨⟩
  k_steps
  all_goals (try k_asm)
  with_reducible rename Fr _ _ _ _ => Fz
  with_reducible rename News _ _ _ _ => Nz
  rw [rtM_nc] at Fz
  unfold Hold
  exact hret _ _ _ _ _ _ Fz Nz
theorem rt_pre_eof (F : Fr h₀ L s.heap (rtM lex nc te qd))
  (N : News h₀ L s.heap ((lex, instObj 739 dlex) :: (dlex, shD w k io pb fs px eof cm wc st ln tln tok ttk) :: (io, instObj 604 dio) :: (dio, ioD w k buf buf.length t6) :: (pb, opb) :: (fs, ofs) :: rest))
  (hne : lex ≠ dlex) (hdl1 : io ≠ dlex) (hne2 : dlex ≠ dio) (hdl2 : pb ≠ dlex) (hdl3 : fs ≠ dlex) (hdl4 : ∀ q ∈ rest, q.1 ≠ dlex)
  (hdp : dp + 20 < recursionLimit) (hun : un + 80 < cLine) (hb : buf.length ≤ 100000)
  (hret : ∀ h' tk' t ln' tln', Fr h₀ L h' (rtM lex (some (.str (Str.ofString "") t)) te qd) → News h₀ L h' ((lex, instObj 739 dlex) :: (dlex, shD w k io pb fs px eof cm wc st ln' tln' tok ttk) :: (io, instObj 604 dio) :: (dio, ioD w k buf buf.length t6) :: (pb, opb) :: (fs, ofs) :: rest) →
    wpAny (model PySem.Challenge.rw_il0144_01.row.prog w) (ktrTop dp un gd (Str.ofString "shlex.read_token") sc L 707 (.ref 706) [] outer) (execs ch (rtEnv sc L)) Q E { s with heap := h', toks := tk' }) :
  wpAny (model PySem.Challenge.rw_il0144_01.row.prog w) (ktrTop dp un gd (Str.ofString "shlex.read_token") sc L 707 (.ref 706) [] outer) (execs bd (rtEnv sc L)) Q E s := by
  subst hbd hch hsc
  revert X; k_fill; intro X
  revert hret
  unfold rtChain rtB rtScope fnD
  rw [show (hd.heap_39 w.params).lookup 707 = some _ from by k_is]
  dsimp only
  intro hret
  have hStop : StopHere := ⟨⟩
  k_steps
  all_goals (try k_asm)
  with_reducible rename Fr _ _ _ _ => Fz
  with_reducible rename News _ _ _ _ => Nz
  rw [rtM_nc] at Fz
  unfold Hold
  exact hret _ _ _ _ _ Fz Nz
end
section
variable {w : World} {p0 : Program} {lo0 : List Str} {mean : ExcName → Option Value} {mg mb : Str → Option Value} {dp un : Nat} {gd : Option (List Code)} {outer : List Env} {A₀ : Around} {base h₀ : Heap} {L : Addr} {s : Shared} {Q : Flow → Shared → Prop} {E : Value → Shared → Prop}
  {lex dlex io dio pb fs : Nat} {rest : List (Addr × Obj)} {opb ofs oio odio : Obj} {k : Nat → Tok} {t6 tln ttk te tc tst : Tok} {cm wc tok : Str} {p c : Nat} {ln : Int} {px qd : Bool} {eof st : Value} {nc : Option Value}
  {bd ch : List Stmt} {sc : Scope} (B : Below A₀ base outer h₀) (X : (hd.heap_39 w.params).In h₀) (T : Top p0 lo0 mean mg mb h₀) (hbd : rtB w = bd) (hch : rtChain w = ch) (hsc : rtScope w = sc)
  (hne : lex ≠ dlex) (hdl1 : io ≠ dlex) (hne2 : dio ≠ dlex) (hdl2 : pb ≠ dlex) (hdl3 : fs ≠ dlex) (hdl4 : ∀ q ∈ rest, q.1 ≠ dlex)
  (hdp : dp + 20 < recursionLimit) (hun : un + 80 < cLine)
include B X T hbd hch hsc hne hdl1 hne2 hdl2 hdl3 hdl4 hdp hun
theorem rt_sp_ch (F : Fr h₀ L s.heap (rtM lex (some (.str (Str.mk #[c]) tc)) te false))
  (N : News h₀ L s.heap ((lex, instObj 739 dlex) :: (dlex, shD w k io pb fs px eof cm wc (.str (Str.ofString " ") tst) ln tln (Str.ofString "") ttk) :: (io, oio) :: (dio, odio) :: (pb, opb) :: (fs, ofs) :: rest))
  (hcm : inS cm c = false) (hesc : px = true → inS (Str.ofString "\\") c = false) (hwq : inS wc c = true → inS (Str.ofString "'\"") c = false)
  (k1 : inS (Str.ofString " \t\r\n") c = true → ∀ fl h' tk', (fl = .next ∨ fl = .cont) → Fr h₀ L h' (rtM lex (some (.str (Str.mk #[c]) tc)) te false) → News h₀ L h' ((lex, instObj 739 dlex) :: (dlex, shD w k io pb fs px eof cm wc (.str (Str.ofString " ") tst) ln tln (Str.ofString "") ttk) :: (io, oio) :: (dio, odio) :: (pb, opb) :: (fs, ofs) :: rest) → Q fl { s with heap := h', toks := tk' })
  (k2 : inS (Str.ofString " \t\r\n") c = false → inS (Str.ofString "'\"") c = true → ∀ fl h' tk' t1 tk2 t2, (fl = .next ∨ fl = .cont) → (tk2 = if px then Str.ofString "" else Str.mk #[c]) → Fr h₀ L h' (rtM lex (some (.str (Str.mk #[c]) tc)) te false) → News h₀ L h' ((lex, instObj 739 dlex) :: (dlex, shD w k io pb fs px eof cm wc (.str (Str.mk #[c]) t1) ln tln tk2 t2) :: (io, oio) :: (dio, odio) :: (pb, opb) :: (fs, ofs) :: rest) → Q fl { s with heap := h', toks := tk' })
  (k3 : inS (Str.ofString " \t\r\n") c = false → inS (Str.ofString "'\"") c = false → ∀ fl h' tk' t1 t2, (fl = .next ∨ fl = .cont) → Fr h₀ L h' (rtM lex (some (.str (Str.mk #[c]) tc)) te false) → News h₀ L h' ((lex, instObj 739 dlex) :: (dlex, shD w k io pb fs px eof cm wc (.str (Str.ofString "a") t1) ln tln (Str.mk #[c]) t2) :: (io, oio) :: (dio, odio) :: (pb, opb) :: (fs, ofs) :: rest) → Q fl { s with heap := h', toks := tk' }) :
  wpAny (model PySem.Challenge.rw_il0144_01.row.prog w) (ktrTop dp un gd (Str.ofString "shlex.read_token") sc L 707 (.ref 706) [] outer) (execs ch (rtEnv sc L)) Q E s := by
  subst hbd hch hsc
  revert X; k_fill; intro X
  unfold rtChain rtB rtScope fnD
  rw [show (hd.heap_39 w.params).lookup 707 = some _ from by k_is]
  dsimp only
  have hemp := inS_empty c
  cases px
  · clear hesc
    k_steps
    all_goals (try dsimp only)
    all_goals first
      | exact k1 (by assumption) _ _ _ (by simp) (by k_asm) (by k_asm)
      | exact k2 (by assumption) (by assumption) _ _ _ _ _ _ (by simp) rfl (by k_asm) (by k_asm)
      | exact k3 (by assumption) (by assumption) _ _ _ _ _ (by simp) (by k_asm) (by k_asm)
      | exact k3 (by assumption) (hwq (by assumption)) _ _ _ _ _ (by simp) (by k_asm) (by k_asm)
  · replace hesc := hesc rfl
    k_steps
    all_goals (try dsimp only)
    all_goals first
      | exact k1 (by assumption) _ _ _ (by simp) (by k_asm) (by k_asm)
      | exact k2 (by assumption) (by assumption) _ _ _ _ _ _ (by simp) rfl (by k_asm) (by k_asm)
      | exact k3 (by assumption) (by assumption) _ _ _ _ _ (by simp) (by k_asm) (by k_asm)
      | exact k3 (by assumption) (hwq (by assumption)) _ _ _ _ _ (by simp) (by k_asm) (by k_asm)
theorem rt_sp_eof (F : Fr h₀ L s.heap (rtM lex (some (.str (Str.ofString "") tc)) te false))
  (N : News h₀ L s.heap ((lex, instObj 739 dlex) :: (dlex, shD w k io pb fs px eof cm wc (.str (Str.ofString " ") tst) ln tln (Str.ofString "") ttk) :: (io, oio) :: (dio, odio) :: (pb, opb) :: (fs, ofs) :: rest))
  (k1 : ∀ h' tk', Fr h₀ L h' (rtM lex (some (.str (Str.ofString "") tc)) te false) → News h₀ L h' ((lex, instObj 739 dlex) :: (dlex, shD w k io pb fs px eof cm wc .none ln tln (Str.ofString "") ttk) :: (io, oio) :: (dio, odio) :: (pb, opb) :: (fs, ofs) :: rest) → Q .brk { s with heap := h', toks := tk' }) :
  wpAny (model PySem.Challenge.rw_il0144_01.row.prog w) (ktrTop dp un gd (Str.ofString "shlex.read_token") sc L 707 (.ref 706) [] outer) (execs ch (rtEnv sc L)) Q E s := by
  subst hbd hch hsc
  revert X; k_fill; intro X
  unfold rtChain rtB rtScope fnD
  rw [show (hd.heap_39 w.params).lookup 707 = some _ from by k_is]
  dsimp only
  k_steps
  all_goals (try dsimp only)
  exact k1 _ _ (by k_asm) (by k_asm)
theorem rt_done_eof (F : Fr h₀ L s.heap (rtM lex (some (.str (Str.ofString "") tc)) te false))
  (N : News h₀ L s.heap ((lex, instObj 739 dlex) :: (dlex, shD w k io pb fs px eof cm wc .none ln tln tok ttk) :: (io, oio) :: (dio, odio) :: (pb, opb) :: (fs, ofs) :: rest))
  (k1 : ∀ h' tk' t, Fr h₀ L h' (rtM lex (some (.str (Str.ofString "") tc)) te false) → News h₀ L h' ((lex, instObj 739 dlex) :: (dlex, shD w k io pb fs px eof cm wc .none ln tln (Str.ofString "") t) :: (io, oio) :: (dio, odio) :: (pb, opb) :: (fs, ofs) :: rest) → Q .brk { s with heap := h', toks := tk' }) :
  wpAny (model PySem.Challenge.rw_il0144_01.row.prog w) (ktrTop dp un gd (Str.ofString "shlex.read_token") sc L 707 (.ref 706) [] outer) (execs ch (rtEnv sc L)) Q E s := by
  subst hbd hch hsc
  revert X; k_fill; intro X
  unfold rtChain rtB rtScope fnD
  rw [show (hd.heap_39 w.params).lookup 707 = some _ from by k_is]
  dsimp only
  k_steps
  all_goals (try dsimp only)
  exact k1 _ _ _ (by k_asm) (by k_asm)
end
section
variable {w : World} {p0 : Program} {lo0 : List Str} {mean : ExcName → Option Value} {mg mb : Str → Option Value} {dp un : Nat} {gd : Option (List Code)} {outer : List Env} {A₀ : Around} {base h₀ : Heap} {L : Addr} {s : Shared} {Q : Flow → Shared → Prop} {E : Value → Shared → Prop}
  {lex dlex io dio pb fs : Nat} {rest : List (Addr × Obj)} {opb ofs oio odio : Obj} {k : Nat → Tok} {t6 tln ttk te tc tst : Tok} {cm wc tok : Str} {p c : Nat} {ln : Int} {px qd : Bool} {eof st : Value} {nc : Option Value}
  {bd ch : List Stmt} {sc : Scope} (B : Below A₀ base outer h₀) (X : (hd.heap_39 w.params).In h₀) (T : Top p0 lo0 mean mg mb h₀) (hbd : rtB w = bd) (hch : rtChain w = ch) (hsc : rtScope w = sc)
  (hne : lex ≠ dlex) (hdl1 : io ≠ dlex) (hne2 : dio ≠ dlex) (hdl2 : pb ≠ dlex) (hdl3 : fs ≠ dlex) (hdl4 : ∀ q ∈ rest, q.1 ≠ dlex)
  (hdp : dp + 20 < recursionLimit) (hun : un + 80 < cLine)
include B X T hbd hch hsc hne hdl1 hne2 hdl2 hdl3 hdl4 hdp hun
theorem rt_a_ch (F : Fr h₀ L s.heap (rtM lex (some (.str (Str.mk #[c]) tc)) te qd))
  (N : News h₀ L s.heap ((lex, instObj 739 dlex) :: (dlex, shD w k io pb fs px eof cm wc (.str (Str.ofString "a") tst) ln tln tok ttk) :: (io, oio) :: (dio, odio) :: (pb, opb) :: (fs, ofs) :: rest))
  (hcm : inS cm c = false) (hesc : px = true → inS (Str.ofString "\\") c = false) (htq : tok.length > 0 ∨ (px = true ∧ qd = true)) (hlen : tok.length ≤ 100000)
  (k1 : inS (Str.ofString " \t\r\n") c = true → ∀ h' tk' t1, Fr h₀ L h' (rtM lex (some (.str (Str.mk #[c]) tc)) te qd) → News h₀ L h' ((lex, instObj 739 dlex) :: (dlex, shD w k io pb fs px eof cm wc (.str (Str.ofString " ") t1) ln tln tok ttk) :: (io, oio) :: (dio, odio) :: (pb, opb) :: (fs, ofs) :: rest) → Q .brk { s with heap := h', toks := tk' })
  (k2 : px = true → inS (Str.ofString " \t\r\n") c = false → inS (Str.ofString "'\"") c = true → ∀ fl h' tk' t1, (fl = .next ∨ fl = .cont) → Fr h₀ L h' (rtM lex (some (.str (Str.mk #[c]) tc)) te qd) → News h₀ L h' ((lex, instObj 739 dlex) :: (dlex, shD w k io pb fs px eof cm wc (.str (Str.mk #[c]) t1) ln tln tok ttk) :: (io, oio) :: (dio, odio) :: (pb, opb) :: (fs, ofs) :: rest) → Q fl { s with heap := h', toks := tk' })
  (k3 : inS (Str.ofString " \t\r\n") c = false → (px = true → inS (Str.ofString "'\"") c = false) → ∀ fl h' tk' t2, (fl = .next ∨ fl = .cont) → Fr h₀ L h' (rtM lex (some (.str (Str.mk #[c]) tc)) te qd) → News h₀ L h' ((lex, instObj 739 dlex) :: (dlex, shD w k io pb fs px eof cm wc (.str (Str.ofString "a") tst) ln tln (tok ++ Str.mk #[c]) t2) :: (io, oio) :: (dio, odio) :: (pb, opb) :: (fs, ofs) :: rest) → Q fl { s with heap := h', toks := tk' }) :
  wpAny (model PySem.Challenge.rw_il0144_01.row.prog w) (ktrTop dp un gd (Str.ofString "shlex.read_token") sc L 707 (.ref 706) [] outer) (execs ch (rtEnv sc L)) Q E s := by
  subst hbd hch hsc
  revert X; k_fill; intro X
  unfold rtChain rtB rtScope fnD
  rw [show (hd.heap_39 w.params).lookup 707 = some _ from by k_is]
  dsimp only
  have hemp := inS_empty c
  cases px
  · clear hesc k2
    replace htq : tok.length > 0 := by rcases htq with h | h; exact h; exact absurd h.1 (by decide)
    k_steps
    all_goals (try dsimp only)
    all_goals first
      | exact k1 (by assumption) _ _ _ (by k_asm) (by walk_at "my asm")
      | exact k3 (by assumption) (fun h => absurd h (by decide)) _ _ _ _ (by simp) (by k_asm) (by walk_at "my asm")
  · replace hesc := hesc rfl
    k_steps
    all_goals (try dsimp only)
    all_goals first
      | exact k1 (by assumption) _ _ _ (by k_asm) (by walk_at "my asm")
      | exact k2 rfl (by assumption) (by assumption) _ _ _ _ (by simp) (by k_asm) (by walk_at "my asm")
      | exact k3 (by assumption) (fun _ => by assumption) _ _ _ _ (by simp) (by k_asm) (by walk_at "my asm")
      | (exfalso; simp_all; done)
      | (exfalso; rcases htq with htq | ⟨_, htq⟩ <;> simp_all <;> omega)
theorem rt_a_eof (F : Fr h₀ L s.heap (rtM lex (some (.str (Str.ofString "") tc)) te qd))
  (N : News h₀ L s.heap ((lex, instObj 739 dlex) :: (dlex, shD w k io pb fs px eof cm wc (.str (Str.ofString "a") tst) ln tln tok ttk) :: (io, oio) :: (dio, odio) :: (pb, opb) :: (fs, ofs) :: rest))
  (k1 : ∀ h' tk', Fr h₀ L h' (rtM lex (some (.str (Str.ofString "") tc)) te qd) → News h₀ L h' ((lex, instObj 739 dlex) :: (dlex, shD w k io pb fs px eof cm wc .none ln tln tok ttk) :: (io, oio) :: (dio, odio) :: (pb, opb) :: (fs, ofs) :: rest) → Q .brk { s with heap := h', toks := tk' }) :
  wpAny (model PySem.Challenge.rw_il0144_01.row.prog w) (ktrTop dp un gd (Str.ofString "shlex.read_token") sc L 707 (.ref 706) [] outer) (execs ch (rtEnv sc L)) Q E s := by
  subst hbd hch hsc
  revert X; k_fill; intro X
  unfold rtChain rtB rtScope fnD
  rw [show (hd.heap_39 w.params).lookup 707 = some _ from by k_is]
  dsimp only
  k_steps
  all_goals (try dsimp only)
  exact k1 _ _ (by k_asm) (by walk_at "my asm")
end
section
variable {w : World} {p0 : Program} {lo0 : List Str} {mean : ExcName → Option Value} {mg mb : Str → Option Value} {dp un : Nat} {gd : Option (List Code)} {outer : List Env} {A₀ : Around} {base h₀ : Heap} {L : Addr} {s : Shared} {Q : Flow → Shared → Prop} {E : Value → Shared → Prop}
  {lex dlex io dio pb fs : Nat} {rest : List (Addr × Obj)} {opb ofs oio odio : Obj} {k : Nat → Tok} {t6 tln ttk te tc tst : Tok} {cm wc tok : Str} {p c : Nat} {ln : Int} {px qd : Bool} {eof st : Value} {nc : Option Value}
  {bd ch : List Stmt} {sc : Scope} (B : Below A₀ base outer h₀) (X : (hd.heap_39 w.params).In h₀) (T : Top p0 lo0 mean mg mb h₀) (hbd : rtB w = bd) (hch : rtChain w = ch) (hsc : rtScope w = sc)
  (hne : lex ≠ dlex) (hdl1 : io ≠ dlex) (hne2 : dio ≠ dlex) (hdl2 : pb ≠ dlex) (hdl3 : fs ≠ dlex) (hdl4 : ∀ q ∈ rest, q.1 ≠ dlex)
  (hdp : dp + 20 < recursionLimit) (hun : un + 80 < cLine)
include B X T hbd hch hsc hne hdl1 hne2 hdl2 hdl3 hdl4 hdp hun
theorem rt_q_ch {qc : Nat} (hqc : qc = 39 ∨ qc = 34) (F : Fr h₀ L s.heap (rtM lex (some (.str (Str.mk #[c]) tc)) te qd))
  (N : News h₀ L s.heap ((lex, instObj 739 dlex) :: (dlex, shD w k io pb fs px eof cm wc (.str (Str.mk #[qc]) tst) ln tln tok ttk) :: (io, oio) :: (dio, odio) :: (pb, opb) :: (fs, ofs) :: rest))
  (hesc : px = true → qc = 34 → inS (Str.ofString "\\") c = false) (hlen : tok.length ≤ 100000)
  (k1 : px = false → c = qc → ∀ h' tk' t1 t2, Fr h₀ L h' (rtM lex (some (.str (Str.mk #[c]) tc)) te true) → News h₀ L h' ((lex, instObj 739 dlex) :: (dlex, shD w k io pb fs px eof cm wc (.str (Str.ofString " ") t1) ln tln (tok ++ Str.mk #[c]) t2) :: (io, oio) :: (dio, odio) :: (pb, opb) :: (fs, ofs) :: rest) → Q .brk { s with heap := h', toks := tk' })
  (k2 : px = true → c = qc → ∀ fl h' tk' t1, (fl = .next ∨ fl = .cont) → Fr h₀ L h' (rtM lex (some (.str (Str.mk #[c]) tc)) te true) → News h₀ L h' ((lex, instObj 739 dlex) :: (dlex, shD w k io pb fs px eof cm wc (.str (Str.ofString "a") t1) ln tln tok ttk) :: (io, oio) :: (dio, odio) :: (pb, opb) :: (fs, ofs) :: rest) → Q fl { s with heap := h', toks := tk' })
  (k3 : c ≠ qc → ∀ fl h' tk' t2, (fl = .next ∨ fl = .cont) → Fr h₀ L h' (rtM lex (some (.str (Str.mk #[c]) tc)) te true) → News h₀ L h' ((lex, instObj 739 dlex) :: (dlex, shD w k io pb fs px eof cm wc (.str (Str.mk #[qc]) tst) ln tln (tok ++ Str.mk #[c]) t2) :: (io, oio) :: (dio, odio) :: (pb, opb) :: (fs, ofs) :: rest) → Q fl { s with heap := h', toks := tk' }) :
  wpAny (model PySem.Challenge.rw_il0144_01.row.prog w) (ktrTop dp un gd (Str.ofString "shlex.read_token") sc L 707 (.ref 706) [] outer) (execs ch (rtEnv sc L)) Q E s := by
  subst hbd hch hsc
  revert X; k_fill; intro X
  unfold rtChain rtB rtScope fnD
  rw [show (hd.heap_39 w.params).lookup 707 = some _ from by k_is]
  dsimp only
  have hemp := inS_empty c
  rcases hqc with rfl | rfl
  all_goals cases px
  all_goals k_steps
  all_goals (try dsimp only)
  all_goals first
    | exact k1 rfl (one_eq (by assumption)) _ _ _ _ (fr_qd (by k_asm)) (by walk_at "my asm")
    | exact k2 rfl (one_eq (by assumption)) _ _ _ _ (by simp) (fr_qd (by k_asm)) (by walk_at "my asm")
    | exact k3 (one_ne (by assumption)) _ _ _ _ (by simp) (fr_qd (by k_asm)) (by walk_at "my asm")
    | (exfalso; simp_all; done)
end
/-- what read_token's loop makes of the signs to come -/
inductive LS where
  | a
  | q (c : Nat)
def rtk (px : Bool) (cm : Str) : LS → Str → Bool → List Nat → Option (Str × Bool × Bool × List Nat)
  | .a, tok, qd, [] => some (tok, qd, true, [])
  | .q _, _, _, [] => none
  | .a, tok, qd, c :: r =>
    if (inS cm c || (px && inS (Str.ofString "\\") c) || !(decide (tok.length > 0) || (px && qd))) = true then none
    else if inS (Str.ofString " \t\r\n") c = true then some (tok, qd, false, r)
    else if (px && inS (Str.ofString "'\"") c) = true then rtk px cm (.q c) tok qd r
    else rtk px cm .a (tok ++ Str.mk #[c]) qd r
  | .q k, tok, _, c :: r =>
    if (!(decide (k = 39 ∨ k = 34)) || (px && decide (k = 34) && inS (Str.ofString "\\") c)) = true then none
    else if c = k then (if px = true then rtk px cm .a tok true r else some (tok ++ Str.mk #[c], true, false, r))
    else rtk px cm (.q k) (tok ++ Str.mk #[c]) true r
def rtSp (px : Bool) (cm : Str) : List Nat → Option (Str × Bool × Bool × List Nat)
  | [] => some (Str.ofString "", false, true, [])
  | c :: r =>
    if (inS cm c || (px && inS (Str.ofString "\\") c)) = true then none
    else if inS (Str.ofString " \t\r\n") c = true then rtSp px cm r
    else if inS (Str.ofString "'\"") c = true then rtk px cm (.q c) (if px then Str.ofString "" else Str.mk #[c]) false r
    else rtk px cm .a (Str.mk #[c]) false r
inductive Ph where
  | sp
  | done
  | k (st : LS)
def Ph.val : Ph → Tok → Value
  | .sp, t => .str (Str.ofString " ") t
  | .done, _ => .none
  | .k .a, t => .str (Str.ofString "a") t
  | .k (.q c), t => .str (Str.mk #[c]) t
def Ph.run (px : Bool) (cm : Str) : Ph → Str → Bool → List Nat → Option (Str × Bool × Bool × List Nat)
  | .sp, tok, qd, r => if tok = Str.ofString "" ∧ qd = false then rtSp px cm r else none
  | .done, _, qd, r => if r = [] ∧ qd = false then some (Str.ofString "", false, true, []) else none
  | .k st, tok, qd, r => rtk px cm st tok qd r
noncomputable def rtTest (w : World) : Expr := match fnD w 707 with
  | some fd => (match fd.body with | .stmts (_ :: _ :: .While e _ _ _ :: _) => e | _ => .Constant .none 0 default)
  | none => .Constant .none 0 default
theorem drop_cons {l : List Nat} {p c : Nat} {r : List Nat} (h : l.drop p = c :: r) : l[p]? = some c ∧ l.drop (p + 1) = r := by
  constructor
  · have := congrArg (fun x => x[0]?) h
    simpa using this
  · have := congrArg List.tail h
    simpa using this
theorem rt_test {w : World} {A : Around} {env : Env} {E : Value → Shared → Prop} {s : Shared} {Q : Bool → Shared → Prop} {tst : Expr} (htst : rtTest w = tst) (h : Q true s) : wpAny (model PySem.Challenge.rw_il0144_01.row.prog w) A (isTrue tst env (eval tst env)) Q E s := by
  subst htst
  have hf : ∃ (i : Nat) (pos : PySem.Pos), rtTest w = Expr.Constant (.bool true) i pos := by
    suffices hh : (hd.heap_39 w.params = hd.heap_39 w.params ∧ PySem.Challenge.rw_il0144_01 = PySem.Challenge.rw_il0144_01) → ∃ (i : Nat) (pos : PySem.Pos), rtTest w = Expr.Constant (.bool true) i pos from hh ⟨rfl, rfl⟩
    k_fill
    intro hz
    clear hz
    unfold rtTest fnD
    rw [show (hd.heap_39 w.params).lookup 707 = some _ from by k_is]
    exact ⟨_, _, rfl⟩
  obtain ⟨i, pos, e⟩ := hf
  rw [e]
  exact fun Γ p hΓ => h
section
variable {w : World} {p0 : Program} {lo0 : List Str} {mean : ExcName → Option Value} {mg mb : Str → Option Value} {dp un : Nat} {gd : Option (List Code)} {outer : List Env} {A₀ : Around} {base h₀ : Heap} {L : Addr} {s : Shared}
  {lex dlex io dio pb fs : Nat} {rest : List (Addr × Obj)} {opb ofs : Obj} {k : Nat → Tok} {te : Tok} {buf cm wc : Str} {px : Bool} {eof : Value}
  {bd ch : List Stmt} {sc : Scope} (B : Below A₀ base outer h₀) (X : (hd.heap_39 w.params).In h₀) (T : Top p0 lo0 mean mg mb h₀) (hbd : rtB w = bd) (hch : rtChain w = ch) (hsc : rtScope w = sc)
  (hne : lex ≠ dlex) (hne1 : lex ≠ dio) (hne2 : dlex ≠ dio) (hne3 : io ≠ dio) (hne4 : pb ≠ dio) (hne5 : fs ≠ dio) (hr1 : ∀ q ∈ rest, q.1 ≠ dio)
  (hdl1 : io ≠ dlex) (hdl2 : pb ≠ dlex) (hdl3 : fs ≠ dlex) (hdl4 : ∀ q ∈ rest, q.1 ≠ dlex)
  (hdp : dp + 20 < recursionLimit) (hun : un + 80 < cLine) (hb : buf.length ≤ 100000) (hwq : ∀ c, inS wc c = true → inS (Str.ofString "'\"") c = false)
include B X T hbd hch hsc hne hne1 hne2 hne3 hne4 hne5 hr1 hdl1 hdl2 hdl3 hdl4 hdp hun hb hwq
theorem rt_loop {tst : Expr} (htst : rtTest w = tst) {R : Result → Shared → Prop} {tokF : Str} {qF fin : Bool} {rF : List Nat}
  (hfin : ∀ nc h' tk' t1 t2 t6 ln tln, rF = buf.cps.toList.drop (buf.length - rF.length) → Fr h₀ L h' (rtM lex nc te qF) → News h₀ L h' ((lex, instObj 739 dlex) :: (dlex, shD w k io pb fs px eof cm wc (if fin then .none else .str (Str.ofString " ") t1) ln tln tokF t2) :: (io, instObj 604 dio) :: (dio, ioD w k buf ((buf.length - rF.length : Nat) : Int) t6) :: (pb, opb) :: (fs, ofs) :: rest) →
    R (.ok .next) { s with heap := h', toks := tk' })
  {ph : Ph} {tok : Str} {qd : Bool} {p : Nat} {nc : Option Value} {t1 ttk t6 tln : Tok} {ln : Int} {h1 : Heap} {tk1 : Nat}
  (hrun : ph.run px cm tok qd (buf.cps.toList.drop p) = some (tokF, qF, fin, rF)) (hp : p ≤ buf.length) (hl : tok.length + (buf.length - p) ≤ 100000)
  (F : Fr h₀ L h1 (rtM lex nc te qd))
  (N : News h₀ L h1 ((lex, instObj 739 dlex) :: (dlex, shD w k io pb fs px eof cm wc (ph.val t1) ln tln tok ttk) :: (io, instObj 604 dio) :: (dio, ioD w k buf (p : Int) t6) :: (pb, opb) :: (fs, ofs) :: rest)) :
  codeAny (model PySem.Challenge.rw_il0144_01.row.prog w) (ktrTop dp un gd (Str.ofString "shlex.read_token") sc L 707 (.ref 706) [] outer) (.whileLoop tst bd [] (rtEnv sc L)) R { s with heap := h1, toks := tk1 } := by
  refine codeAny_whileLoop (fun n s' => ∃ (ph : Ph) (tok : Str) (qd : Bool) (p : Nat) (nc : Option Value) (t1 ttk t6 tln : Tok) (ln : Int) (h1 : Heap) (tk1 : Nat), s' = { s with heap := h1, toks := tk1 } ∧ n = buf.length - p ∧ ph.run px cm tok qd (buf.cps.toList.drop p) = some (tokF, qF, fin, rF) ∧ p ≤ buf.length ∧ tok.length + (buf.length - p) ≤ 100000 ∧ Fr h₀ L h1 (rtM lex nc te qd) ∧
    News h₀ L h1 ((lex, instObj 739 dlex) :: (dlex, shD w k io pb fs px eof cm wc (ph.val t1) ln tln tok ttk) :: (io, instObj 604 dio) :: (dio, ioD w k buf (p : Int) t6) :: (pb, opb) :: (fs, ofs) :: rest)) ?_ (buf.length - p) ⟨ph, tok, qd, p, nc, t1, ttk, t6, tln, ln, h1, tk1, rfl, rfl, hrun, hp, hl, F, N⟩
  clear F N hrun hp hl
  rintro n s' ⟨ph, tok, qd, p, nc, t1, ttk, t6, tln, ln, h1, tk1, rfl, rfl, hrun, hp, hl, F, N⟩
  refine rt_test htst ?_
  rw [if_pos rfl]
  have hsz : buf.length = buf.cps.toList.length := by rw [Array.length_toList]; rfl
  cases hd0 : buf.cps.toList.drop p with
  | nil =>
    have hpe : p = buf.length := by
      have := List.drop_eq_nil_iff.mp hd0
      omega
    subst hpe
    rw [hd0] at hrun
    refine rt_pre_eof B X T hbd hch hsc F N hne hdl1 hne2 hdl2 hdl3 hdl4 hdp hun hb ?_
    intro h2 tk2 t ln2 tln2 F2 N2
    cases ph with
    | sp =>
      unfold Ph.run at hrun
      try dsimp only at hrun
      split at hrun
      · rename_i hcond
        obtain ⟨rfl, rfl⟩ := hcond
        unfold rtSp at hrun
        try dsimp only at hrun
        simp only [Option.some.injEq, Prod.mk.injEq] at hrun
        obtain ⟨rfl, rfl, rfl, rfl⟩ := hrun
        simp only [Ph.val] at N2
        refine rt_sp_eof B X T hbd hch hsc hne hdl1 (Ne.symm hne2) hdl2 hdl3 hdl4 hdp hun F2 N2 ?_
        intro h3 tk3 F3 N3
        exact hfin _ _ _ 0 _ _ _ _ (by simp [hsz]) F3 N3
      · cases hrun
    | done =>
      unfold Ph.run at hrun
      try dsimp only at hrun
      split at hrun
      · rename_i hcond
        obtain ⟨_, rfl⟩ := hcond
        simp only [Option.some.injEq, Prod.mk.injEq] at hrun
        obtain ⟨rfl, rfl, rfl, rfl⟩ := hrun
        simp only [Ph.val] at N2
        refine rt_done_eof B X T hbd hch hsc hne hdl1 (Ne.symm hne2) hdl2 hdl3 hdl4 hdp hun F2 N2 ?_
        intro h3 tk3 t3 F3 N3
        exact hfin _ _ _ 0 _ _ _ _ (by simp [hsz]) F3 N3
      · cases hrun
    | k st =>
      cases st with
      | a =>
        unfold Ph.run at hrun
        try dsimp only at hrun
        unfold rtk at hrun
        try dsimp only at hrun
        simp only [Option.some.injEq, Prod.mk.injEq] at hrun
        obtain ⟨rfl, rfl, rfl, rfl⟩ := hrun
        simp only [Ph.val] at N2
        refine rt_a_eof B X T hbd hch hsc hne hdl1 (Ne.symm hne2) hdl2 hdl3 hdl4 hdp hun F2 N2 ?_
        intro h3 tk3 F3 N3
        exact hfin _ _ _ 0 _ _ _ _ (by simp [hsz]) F3 N3
      | q c0 =>
        unfold Ph.run at hrun
        try dsimp only at hrun
        unfold rtk at hrun
        try dsimp only at hrun
        cases hrun
  | cons c r =>
    obtain ⟨hc', hr'⟩ := drop_cons hd0
    have hc : buf.cps[p]? = some c := by rw [← hc']; simp
    have hlt : p < buf.length := (Array.getElem?_eq_some_iff.mp hc).1
    rw [hd0, ← hr'] at hrun
    refine rt_pre_ch B X T hbd hch hsc F N hc hne hne1 hne2 hne3 hne4 hne5 hr1 hdl1 hdl2 hdl3 hdl4 hdp hun hb ?_
    intro h2 tk2 t t62 ln2 tln2 F2 N2
    cases ph with
    | sp =>
      unfold Ph.run at hrun
      try dsimp only at hrun
      split at hrun
      · rename_i hcond
        obtain ⟨rfl, rfl⟩ := hcond
        unfold rtSp at hrun
        try dsimp only at hrun
        split at hrun
        · cases hrun
        · rename_i hg
          simp only [Bool.or_eq_true, Bool.and_eq_true, not_or, not_and, Bool.not_eq_true] at hg
          simp only [Ph.val] at N2
          refine rt_sp_ch B X T hbd hch hsc hne hdl1 (Ne.symm hne2) hdl2 hdl3 hdl4 hdp hun F2 N2 hg.1 hg.2 (hwq c) ?_ ?_ ?_
          · intro hws fl h3 tk3 hfl F3 N3
            rw [if_pos hws] at hrun
            rcases hfl with rfl | rfl <;> exact ⟨_, Nat.sub_lt_sub_left hlt (Nat.lt_succ_self p), .sp, _, _, p + 1, _, _, _, _, _, _, _, _, rfl, rfl, (if_pos ⟨rfl, rfl⟩).trans hrun, hlt, by omega, F3, N3⟩
          · intro hws hq fl h3 tk3 t3 tok3 t4 hfl htok F3 N3
            rw [if_neg (by rw [hws]; decide), if_pos hq, ← htok] at hrun
            have hl3 : tok3.length ≤ 1 := by rw [htok]; split; decide +kernel; exact Nat.le_refl 1
            rcases hfl with rfl | rfl <;> exact ⟨_, Nat.sub_lt_sub_left hlt (Nat.lt_succ_self p), .k (.q c), _, _, p + 1, _, _, _, _, _, _, _, _, rfl, rfl, hrun, hlt, by omega, F3, N3⟩
          · intro hws hq fl h3 tk3 t3 t4 hfl F3 N3
            rw [if_neg (by rw [hws]; decide), if_neg (by rw [hq]; decide)] at hrun
            have hl3 : (Str.mk #[c]).length ≤ 1 := Nat.le_refl 1
            rcases hfl with rfl | rfl <;> exact ⟨_, Nat.sub_lt_sub_left hlt (Nat.lt_succ_self p), .k .a, _, _, p + 1, _, _, _, _, _, _, _, _, rfl, rfl, hrun, hlt, by omega, F3, N3⟩
      · cases hrun
    | done =>
      unfold Ph.run at hrun
      try dsimp only at hrun
      rw [if_neg (by rintro ⟨h, _⟩; cases h)] at hrun
      cases hrun
    | k st =>
      cases st with
      | a =>
        unfold Ph.run at hrun
        try dsimp only at hrun
        unfold rtk at hrun
        try dsimp only at hrun
        split at hrun
        · cases hrun
        · rename_i hg
          simp only [Bool.or_eq_true, Bool.and_eq_true, not_or, not_and, Bool.not_eq_true, Bool.not_eq_false', decide_eq_true_eq, Bool.not_eq_true', Bool.or_eq_false_iff] at hg
          obtain ⟨⟨hg1, hg2⟩, hg3⟩ := hg
          simp only [Ph.val] at N2
          refine rt_a_ch B X T hbd hch hsc hne hdl1 (Ne.symm hne2) hdl2 hdl3 hdl4 hdp hun F2 N2 hg1 hg2 (by
            cases hz : decide (tok.length > 0) with
            | true => exact .inl (of_decide_eq_true hz)
            | false => right; revert hg3; rw [hz]; cases px <;> cases qd <;> simp) (by omega) ?_ ?_ ?_
          · intro hws h3 tk3 t3 F3 N3
            rw [if_pos hws] at hrun
            simp only [Option.some.injEq, Prod.mk.injEq] at hrun
            obtain ⟨rfl, rfl, rfl, rfl⟩ := hrun
            have hpe : buf.length - (buf.cps.toList.drop (p + 1)).length = p + 1 := by rw [List.length_drop, ← hsz]; omega
            rw [← hpe] at N3
            exact hfin _ _ _ t3 _ _ _ _ (by rw [hpe]) F3 N3
          · intro hpx hws hq fl h3 tk3 t3 hfl F3 N3
            rw [if_neg (by rw [hws]; decide), if_pos (by rw [hpx, hq]; rfl)] at hrun
            rcases hfl with rfl | rfl <;> exact ⟨_, Nat.sub_lt_sub_left hlt (Nat.lt_succ_self p), .k (.q c), _, _, p + 1, _, _, _, _, _, _, _, _, rfl, rfl, hrun, hlt, by omega, F3, N3⟩
          · intro hws hq fl h3 tk3 t3 hfl F3 N3
            rw [if_neg (by rw [hws]; decide), if_neg (by intro hh; rw [Bool.and_eq_true] at hh; have h7 := hq hh.1; rw [h7] at hh; exact absurd hh.2 (by decide))] at hrun
            have hl3 : (tok ++ Str.mk #[c]).length = tok.length + 1 := Str.length_append ..
            rcases hfl with rfl | rfl <;> exact ⟨_, Nat.sub_lt_sub_left hlt (Nat.lt_succ_self p), .k .a, _, _, p + 1, _, _, _, _, _, _, _, _, rfl, rfl, hrun, hlt, by omega, F3, N3⟩
      | q c0 =>
        unfold Ph.run at hrun
        try dsimp only at hrun
        unfold rtk at hrun
        try dsimp only at hrun
        split at hrun
        · cases hrun
        · rename_i hg
          simp only [Bool.or_eq_true, Bool.and_eq_true, not_or, not_and, Bool.not_eq_true, decide_eq_true_eq, Bool.not_eq_true', Bool.not_eq_false'] at hg
          obtain ⟨hg1, hg2⟩ := hg
          have hl3 : (tok ++ Str.mk #[c]).length = tok.length + 1 := Str.length_append ..
          simp only [Ph.val] at N2
          refine rt_q_ch B X T hbd hch hsc hne hdl1 (Ne.symm hne2) hdl2 hdl3 hdl4 hdp hun (by cases hz : decide (c0 = 39 ∨ c0 = 34) with | false => exact absurd hz hg1 | true => exact of_decide_eq_true hz) F2 N2 (fun a b => hg2 ⟨a, b⟩) (by omega) ?_ ?_ ?_
          · intro hpx hcc h3 tk3 t3 t4 F3 N3
            rw [if_pos hcc, if_neg (by rw [hpx]; decide)] at hrun
            simp only [Option.some.injEq, Prod.mk.injEq] at hrun
            obtain ⟨rfl, rfl, rfl, rfl⟩ := hrun
            have hpe : buf.length - (buf.cps.toList.drop (p + 1)).length = p + 1 := by rw [List.length_drop, ← hsz]; omega
            rw [← hpe] at N3
            exact hfin _ _ _ t3 _ _ _ _ (by rw [hpe]) F3 N3
          · intro hpx hcc fl h3 tk3 t3 hfl F3 N3
            rw [if_pos hcc, if_pos hpx] at hrun
            rcases hfl with rfl | rfl <;> exact ⟨_, Nat.sub_lt_sub_left hlt (Nat.lt_succ_self p), .k .a, _, _, p + 1, _, _, _, _, _, _, _, _, rfl, rfl, hrun, hlt, by omega, F3, N3⟩
          · intro hcc fl h3 tk3 t3 hfl F3 N3
            rw [if_neg hcc] at hrun
            rcases hfl with rfl | rfl <;> exact ⟨_, Nat.sub_lt_sub_left hlt (Nat.lt_succ_self p), .k (.q c0), _, _, p + 1, _, _, _, _, _, _, _, _, rfl, rfl, hrun, hlt, by omega, F3, N3⟩
end
/-- what read_token hands back -/
def RetV (px : Bool) (tok : Str) (qd : Bool) (v : Value) : Prop := if px = true ∧ qd = false ∧ tok = Str.ofString "" then v = .none else ∃ t, v = .str tok t
theorem rtM_init {h₀ h : Heap} {L : Addr} {lex : Nat} {te : Tok} (F : Fr h₀ L h (fun y => if y = Str.ofString "escapedstate" then some (.str (Str.ofString " ") te) else if y = Str.ofString "quoted" then some (.bool false) else List.lookup y [(Str.ofString "self", .ref lex)])) : Fr h₀ L h (rtM lex none te false) := by
  have e : (fun y => if y = Str.ofString "escapedstate" then some (.str (Str.ofString " ") te) else if y = Str.ofString "quoted" then some (.bool false) else List.lookup y [(Str.ofString "self", .ref lex)]) = rtM lex none te false := by
    funext y
    unfold rtM
    by_cases h1 : y = Str.ofString "nextchar"
    · subst h1
      rw [if_pos rfl, if_neg (by decide +kernel), if_neg (by decide +kernel)]
      rfl
    · rw [if_neg h1]
      by_cases h2 : y = Str.ofString "self"
      · subst h2
        rfl
      · simp only [List.lookup, h2, if_false]
        split
        · rfl
        · split
          · rfl
          · rw [beq_eq_false_iff_ne.mpr h2]
  rw [e] at F
  exact F
theorem val_if {dn : Bool} {t : Tok} : (if dn = true then Ph.done else Ph.sp).val t = (if dn = true then Value.none else .str (Str.ofString " ") t) := by cases dn <;> rfl
section
variable {w : World} {p0 : Program} {lo0 : List Str} {mean : ExcName → Option Value} {mg mb : Str → Option Value} {dp un : Nat} {gd : Option (List Code)} {cn : Str} {cs : Scope} {a : Addr} {ccd : Value} {cl : List (Str × Addr)} {outer : List Env} {A₀ : Around} {base h₀ : Heap} {L : Addr} {m : Str → Option Value} {s : Shared} {Q E : Value → Shared → Prop}
  {lex dlex io dio pb fs : Nat} {rest : List (Addr × Obj)} {opb ofs : Obj} {k : Nat → Tok} {t1 ttk t6 tln : Tok} {buf cm wc : Str} {px dn : Bool} {eof : Value} {p : Nat} {ln : Int}
  (B : Below A₀ base outer h₀) (F : Fr h₀ L s.heap m) (X : (hd.heap_39 w.params).In h₀) (T : Top p0 lo0 mean mg mb h₀) (hk : cs.kind = .function)
  (hne : lex ≠ dlex) (hne1 : lex ≠ dio) (hne2 : dlex ≠ dio) (hne3 : io ≠ dio) (hne4 : pb ≠ dio) (hne5 : fs ≠ dio) (hr1 : ∀ q ∈ rest, q.1 ≠ dio)
  (hdl1 : io ≠ dlex) (hdl2 : pb ≠ dlex) (hdl3 : fs ≠ dlex) (hdl4 : ∀ q ∈ rest, q.1 ≠ dlex)
  (hdp : dp + 24 < recursionLimit) (hun : un + 100 < cLine) (hb : buf.length ≤ 50000) (hwq : ∀ c, inS wc c = true → inS (Str.ofString "'\"") c = false)
include B F X T hk hne hne1 hne2 hne3 hne4 hne5 hr1 hdl1 hdl2 hdl3 hdl4 hdp hun hb hwq
theorem read_token_spec {tokF : Str} {qF fin : Bool} {rF : List Nat} (hp : p ≤ buf.length)
  (hrun : (if dn = true then Ph.done else Ph.sp).run px cm (Str.ofString "") false (buf.cps.toList.drop p) = some (tokF, qF, fin, rF))
  (N : News h₀ L s.heap ((lex, instObj 739 dlex) :: (dlex, shD w k io pb fs px eof cm wc (if dn then .none else .str (Str.ofString " ") t1) ln tln (Str.ofString "") ttk) :: (io, instObj 604 dio) :: (dio, ioD w k buf (p : Int) t6) :: (pb, opb) :: (fs, ofs) :: rest))
  (hret : ∀ v h' tk' t1 t2 t6 ln tln, RetV px tokF qF v → rF = buf.cps.toList.drop (buf.length - rF.length) → Fr h₀ L h' m → News h₀ L h' ((lex, instObj 739 dlex) :: (dlex, shD w k io pb fs px eof cm wc (if fin then .none else .str (Str.ofString " ") t1) ln tln (Str.ofString "") t2) :: (io, instObj 604 dio) :: (dio, ioD w k buf ((buf.length - rF.length : Nat) : Int) t6) :: (pb, opb) :: (fs, ofs) :: rest) → Q v { s with heap := h', toks := tk' }) :
  wpAny (model PySem.Challenge.rw_il0144_01.row.prog w) (ktrTop dp un gd cn cs L a ccd cl outer) (call (.ref 707) [.ref lex]) Q E s := by
  revert X; k_fill; intro X
  refine wpAny_call ?_
  walk_at "my enter"
  k_steps
  with_reducible rename Fr _ _ _ _ => F1
  with_reducible rename News _ _ _ _ => N1
  (with_reducible rename Below _ _ _ _ => B1)
  (with_reducible rename Frag.In _ _ => X1)
  (with_reducible rename Top _ _ _ _ _ _ => T1)
  refine' rt_loop (ph := if dn then .done else .sp) (t1 := t1) B1 X1 T1 ?hbd rfl ?hsc hne hne1 hne2 hne3 hne4 hne5 hr1 hdl1 hdl2 hdl3 hdl4 ?hdp ?hun ?hb hwq ?htst ?hfin hrun hp ?hl ?F ?N
  (case hbd => unfold rtB fnD; rw [show (hd.heap_39 w.params).lookup 707 = some _ from by k_is])
  (case hsc => unfold rtScope fnD; rw [show (hd.heap_39 w.params).lookup 707 = some _ from by k_is])
  (case htst => unfold rtTest fnD; rw [show (hd.heap_39 w.params).lookup 707 = some _ from by k_is])
  (case F => exact rtM_init F1)
  (case N => rw [val_if]; exact N1)
  (case hdp => k_room)
  (case hun => k_units)
  (case hb => omega)
  (case hl => rw [show (Str.ofString "").length = 0 from by decide +kernel]; omega)
  intro nc h2 tk2 t12 t22 t62 ln2 tln2 hrF F2 N2
  dsimp only
  k_steps
  all_goals first
    | exact hret _ _ _ _ _ _ _ _ (by unfold RetV; rw [if_pos ⟨by assumption, by assumption, beq_iff_eq.mp (by assumption)⟩]) hrF (by k_asm) (by walk_at "my asm")
    | exact hret _ _ _ _ _ _ _ _ (by unfold RetV; rw [if_neg (by rintro ⟨h1, h2, h3⟩; first | (have z : px = false := by assumption); rw [z] at h1; cases h1 | (have z : qF = true := by assumption); rw [z] at h2; cases h2 | (have z : (tokF == Str.ofString "") = false := by assumption); rw [h3, beq_self_eq_true] at z; cases z)]; exact ⟨_, rfl⟩) hrF (by k_asm) (by walk_at "my asm")
end
abbrev dqO : Obj := { cls := .type "collections.deque", data := .fields #[.none, rawInt 0] }
theorem noBool_dq : typeLookup (.type "collections.deque") "__bool__" = pure none := by rw [typeLookup_type, builtinLookup_eq_fast]; kernel_rfl
theorem slot_dq_len : Slot "collections.deque" "__len__" "collections.deque.__len__" :=
  .of (owner := "collections.deque") (n := "__len__") (by rw [typeLookup_type, builtinLookup_eq_fast]; kernel_rfl) (by decide +kernel) (by decide +kernel) (by decide +kernel)
    (by first | exact .inl (by decide +kernel) | exact .inr (by decide +kernel)) (by rw [isSubtype_type]; kernel_rfl)
theorem entry_dq_len : entryFor table "collections.deque.__len__" = some Builtin.«collections.deque.__len__» := entryFor_of_fast (by kernel_rfl)
theorem args_dq_len (a : Value) : argsOk "collections.deque.__len__" ⟨[a], []⟩ := by unfold argsOk; kernel_rfl
theorem len_dq_body {prog : Program} {w : World} {A : Around} {E : Value → Shared → Prop} {s : Shared} {l : Addr} {Q : Bool → Shared → Prop} (ho : s.heap.get? l = some dqO) (h : ∀ k, Q false { s with toks := k }) :
    wpAny (model prog w) A (Builtin.«len» ⟨[.ref l], []⟩) (fun fin s' => ∃ r, fin = .done (.ret r) ∧ r = .int 0 (s.toks + 1) ∧ Q false s') E s := by
  have hT : s.TypeIs (.ref l) "collections.deque" := ⟨_, ho, rfl⟩
  unfold Builtin.«len»
  refine wpAny_bind (m := oneArg "len" _) (wpAny_pure ?_)
  refine wpAny_bind (m := callSpecial? (.ref l) (Str.ofString "__len__")) (wpAny_callSpecial?_slot (name := Str.ofString "__len__") hT slot_dq_len
    (wpAny_call_entry slot_dq_len hT entry_dq_len ?_ (args_dq_len _)))
  show wpAny _ _ (do retInt (← Builtin.Deque.size (.ref l))) _ _ s
  unfold Builtin.Deque.size
  refine wpAny_bind (wpAny_bind (wpAny_fieldsOf ho rfl (wpAny_pure ?_)))
  refine wpAny_bind (wpAny_mkInt (wpAny_pure ⟨_, rfl, ?_⟩))
  refine wpAny_bind (wpAny_holding (wpAny_pure ?_))
  refine wpAny_bind (wpAny_letGo ?_)
  show wpAny _ _ (if (((#[Value.none, rawInt 0] : Array Value).size - 2 : Nat) : Int) < 0 then _ else _) _ _ _
  rw [if_neg (by decide)]
  show wpAny _ _ (if (((#[Value.none, rawInt 0] : Array Value).size - 2 : Nat) : Int) ≥ 2 ^ 63 then _ else _) _ _ _
  rw [if_neg (by decide)]
  exact wpAny_bind (wpAny_mkInt (wpAny_pure ⟨_, rfl, rfl, h _⟩))
theorem truthy_dq {prog : Program} {w : World} {A : Around} {E : Value → Shared → Prop} {s : Shared} {h₀ : Heap} {L : Addr} {news : List (Addr × Obj)} {l : Addr} {Q : Bool → Shared → Prop} (N : News h₀ L s.heap news) (hm : (l, dqO) ∈ news)
    (h : ∀ k, Q false { s with toks := k }) : wpAny (model prog w) A (truthy (.ref l)) Q E s := by
  have ho : s.heap.get? l = some dqO := N.get hm
  have hT : s.TypeIs (.ref l) "collections.deque" := ⟨_, ho, rfl⟩
  have key : wpAny (model prog w) A (runValue (.builtin "len" ⟨[.ref l], []⟩)) (fun r s' => r = .int 0 (s.toks + 1) ∧ Q false s') E s := by
    refine wpAny_runValue (codeAny_builtin entry_len ?_)
    rw [Around.under_plainId plain_len _]
    exact wpAny_mono (len_dq_body ho h) (fun fin s' h' => by obtain ⟨r, rfl, hq⟩ := h'; exact hq) fun _ _ e => e
  unfold truthy
  first
    | refine wpAny_bind (wpAny_callSpecial?_none (name := Str.ofString "__bool__") hT noBool_dq ?_)
    | refine wpAny_bind (wpAny_pure (wpAny_bind (wpAny_callSpecial?_none (name := Str.ofString "__bool__") hT noBool_dq ?_)))
  first
    | refine wpAny_bind (wpAny_specialOf (name := Str.ofString "__len__") hT slot_dq_len.lookup ?_)
    | refine wpAny_bind (wpAny_pure (wpAny_bind (wpAny_specialOf (name := Str.ofString "__len__") hT slot_dq_len.lookup ?_)))
  first
    | exact wpAny_bind (wpAny_mono key (fun r s' h' => by obtain ⟨rfl, hq⟩ := h'; exact wpAny_pure hq) fun _ _ e => e)
    | exact wpAny_bind (wpAny_pure (wpAny_bind (wpAny_mono key (fun r s' h' => by obtain ⟨rfl, hq⟩ := h'; exact wpAny_pure hq) fun _ _ e => e)))
section
variable {w : World} {p0 : Program} {lo0 : List Str} {mean : ExcName → Option Value} {mg mb : Str → Option Value} {dp un : Nat} {gd : Option (List Code)} {cn : Str} {cs : Scope} {a : Addr} {ccd : Value} {cl : List (Str × Addr)} {outer : List Env} {A₀ : Around} {base h₀ : Heap} {L : Addr} {m : Str → Option Value} {s : Shared} {Q E : Value → Shared → Prop}
  {lex dlex io dio pb fs : Nat} {rest : List (Addr × Obj)} {k : Nat → Tok} {t1 ttk t6 tln : Tok} {buf cm wc : Str} {px dn : Bool} {eof : Value} {p : Nat} {ln : Int}
  (B : Below A₀ base outer h₀) (F : Fr h₀ L s.heap m) (X : (hd.heap_39 w.params).In h₀) (T : Top p0 lo0 mean mg mb h₀) (hk : cs.kind = .function)
  (hne : lex ≠ dlex) (hne1 : lex ≠ dio) (hne2 : dlex ≠ dio) (hne3 : io ≠ dio) (hne4 : pb ≠ dio) (hne5 : fs ≠ dio) (hr1 : ∀ q ∈ rest, q.1 ≠ dio)
  (hdl1 : io ≠ dlex) (hdl2 : pb ≠ dlex) (hdl3 : fs ≠ dlex) (hdl4 : ∀ q ∈ rest, q.1 ≠ dlex)
  (hdp : dp + 24 < recursionLimit) (hun : un + 100 < cLine) (hb : buf.length ≤ 50000) (hwq : ∀ c, inS wc c = true → inS (Str.ofString "'\"") c = false)
include B F X T hk hne hne1 hne2 hne3 hne4 hne5 hr1 hdl1 hdl2 hdl3 hdl4 hdp hun hb hwq
theorem read_token_N {tokF : Str} {qF fin : Bool} {rF : List Nat} (hp : p ≤ buf.length)
  (hrun : (if dn = true then Ph.done else Ph.sp).run px cm (Str.ofString "") false (buf.cps.toList.drop p) = some (tokF, qF, fin, rF))
  (N : News h₀ L s.heap ((lex, instObj 739 dlex) :: (dlex, shD w k io pb fs px eof cm wc (if dn then .none else .str (Str.ofString " ") t1) ln tln (Str.ofString "") ttk) :: (io, instObj 604 dio) :: (dio, ioD w k buf (p : Int) t6) :: (pb, dqO) :: (fs, dqO) :: rest))
  (hz : px = true ∧ qF = false ∧ tokF = Str.ofString "")
  (hret : ∀ h' tk' t1 t2 t6 ln tln, rF = buf.cps.toList.drop (buf.length - rF.length) → Fr h₀ L h' m → News h₀ L h' ((lex, instObj 739 dlex) :: (dlex, shD w k io pb fs px eof cm wc (if fin then .none else .str (Str.ofString " ") t1) ln tln (Str.ofString "") t2) :: (io, instObj 604 dio) :: (dio, ioD w k buf ((buf.length - rF.length : Nat) : Int) t6) :: (pb, dqO) :: (fs, dqO) :: rest) → Q .none { s with heap := h', toks := tk' }) :
  wpAny (model PySem.Challenge.rw_il0144_01.row.prog w) (ktrTop dp un gd cn cs L a ccd cl outer) (call (.ref 707) [.ref lex]) Q E s := by
  refine read_token_spec B F X T hk hne hne1 hne2 hne3 hne4 hne5 hr1 hdl1 hdl2 hdl3 hdl4 hdp hun hb hwq hp hrun N ?_
  intro v h' tk' t1 t2 t6 ln tln hv
  unfold RetV at hv
  rw [if_pos hz] at hv
  subst hv
  exact hret _ _ _ _ _ _ _
theorem read_token_S {tokF : Str} {qF fin : Bool} {rF : List Nat} (hp : p ≤ buf.length)
  (hrun : (if dn = true then Ph.done else Ph.sp).run px cm (Str.ofString "") false (buf.cps.toList.drop p) = some (tokF, qF, fin, rF))
  (N : News h₀ L s.heap ((lex, instObj 739 dlex) :: (dlex, shD w k io pb fs px eof cm wc (if dn then .none else .str (Str.ofString " ") t1) ln tln (Str.ofString "") ttk) :: (io, instObj 604 dio) :: (dio, ioD w k buf (p : Int) t6) :: (pb, dqO) :: (fs, dqO) :: rest))
  (hz : ¬ (px = true ∧ qF = false ∧ tokF = Str.ofString ""))
  (hret : ∀ t h' tk' t1 t2 t6 ln tln, rF = buf.cps.toList.drop (buf.length - rF.length) → Fr h₀ L h' m → News h₀ L h' ((lex, instObj 739 dlex) :: (dlex, shD w k io pb fs px eof cm wc (if fin then .none else .str (Str.ofString " ") t1) ln tln (Str.ofString "") t2) :: (io, instObj 604 dio) :: (dio, ioD w k buf ((buf.length - rF.length : Nat) : Int) t6) :: (pb, dqO) :: (fs, dqO) :: rest) → Q (.str tokF t) { s with heap := h', toks := tk' }) :
  wpAny (model PySem.Challenge.rw_il0144_01.row.prog w) (ktrTop dp un gd cn cs L a ccd cl outer) (call (.ref 707) [.ref lex]) Q E s := by
  refine read_token_spec B F X T hk hne hne1 hne2 hne3 hne4 hne5 hr1 hdl1 hdl2 hdl3 hdl4 hdp hun hb hwq hp hrun N ?_
  intro v h' tk' t1 t2 t6 ln tln hv
  unfold RetV at hv
  rw [if_neg hz] at hv
  obtain ⟨t, rfl⟩ := hv
  exact hret _ _ _ _ _ _ _ _
end
local macro_rules | `(tactic| walk_at "call ref") => `(tactic| (k_here; (with_reducible show wpAny _ _ (call (Value.ref 707) _) _ _ _); k_dflt (first | (refine' read_token_N ?kB ?kF ?kX ?kT ?kk ?a1 ?a2 ?a3 ?a4 ?a5 ?a6 ?a7 ?a8 ?a9 ?b1 ?b2 ?hdp ?hun ?b3 ?b4 ?b5 ?b6 ?kN ?b7 ?_; (case b7 => assumption); (case kB => k_asm); (case kF => k_asm); (case kX => k_asm); (case kT => k_asm); (case kk => rfl); (case kN => k_asm); (case a1 => assumption); (case a2 => assumption); (case a3 => assumption); (case a4 => assumption); (case a5 => assumption); (case a6 => assumption); (case a7 => assumption); (case a8 => assumption); (case a9 => assumption); (case b1 => assumption); (case b2 => assumption); (case b3 => assumption); (case b4 => assumption); (case b5 => assumption); (case b6 => assumption); (case hdp => k_room); (case hun => k_units); intro h9 tk9 t91 t92 t93 ln9 tln9 hrF9 F9 N9; (try dsimp only)) | (refine' read_token_S ?kB ?kF ?kX ?kT ?kk ?a1 ?a2 ?a3 ?a4 ?a5 ?a6 ?a7 ?a8 ?a9 ?b1 ?b2 ?hdp ?hun ?b3 ?b4 ?b5 ?b6 ?kN ?b7 ?_; (case b7 => assumption); (case kB => k_asm); (case kF => k_asm); (case kX => k_asm); (case kT => k_asm); (case kk => rfl); (case kN => k_asm); (case a1 => assumption); (case a2 => assumption); (case a3 => assumption); (case a4 => assumption); (case a5 => assumption); (case a6 => assumption); (case a7 => assumption); (case a8 => assumption); (case a9 => assumption); (case b1 => assumption); (case b2 => assumption); (case b3 => assumption); (case b4 => assumption); (case b5 => assumption); (case b6 => assumption); (case hdp => k_room); (case hun => k_units); intro tt9 h9 tk9 t91 t92 t93 ln9 tln9 hrF9 F9 N9; (try dsimp only)))))
local macro_rules | `(tactic| walk_at "truthy ref") => `(tactic| (k_here; (with_reducible show wpAny _ _ (truthy (Value.ref _)) _ _ _); k_dflt (refine' truthy_dq ?kN ?km ?_; (case kN => k_asm); (case km => k_mem); k_whole; intro k9)))
section
variable {w : World} {p0 : Program} {lo0 : List Str} {mean : ExcName → Option Value} {mg mb : Str → Option Value} {dp un : Nat} {gd : Option (List Code)} {cn : Str} {cs : Scope} {a : Addr} {ccd : Value} {cl : List (Str × Addr)} {outer : List Env} {A₀ : Around} {base h₀ : Heap} {L : Addr} {m : Str → Option Value} {s : Shared} {Q E : Value → Shared → Prop}
  {lex dlex io dio pb fs : Nat} {rest : List (Addr × Obj)} {k : Nat → Tok} {t1 ttk t6 tln : Tok} {buf cm wc : Str} {px dn : Bool} {eof : Value} {p : Nat} {ln : Int}
  (B : Below A₀ base outer h₀) (F : Fr h₀ L s.heap m) (X : (hd.heap_39 w.params).In h₀) (T : Top p0 lo0 mean mg mb h₀) (hk : cs.kind = .function)
  (hne : lex ≠ dlex) (hne1 : lex ≠ dio) (hne2 : dlex ≠ dio) (hne3 : io ≠ dio) (hne4 : pb ≠ dio) (hne5 : fs ≠ dio) (hr1 : ∀ q ∈ rest, q.1 ≠ dio)
  (hdl1 : io ≠ dlex) (hdl2 : pb ≠ dlex) (hdl3 : fs ≠ dlex) (hdl4 : ∀ q ∈ rest, q.1 ≠ dlex)
  (hdp : dp + 30 < recursionLimit) (hun : un + 120 < cLine) (hb : buf.length ≤ 50000) (hwq : ∀ c, inS wc c = true → inS (Str.ofString "'\"") c = false)
include B F X T hk hne hne1 hne2 hne3 hne4 hne5 hr1 hdl1 hdl2 hdl3 hdl4 hdp hun hb hwq
theorem get_token_spec {tokF : Str} {qF fin : Bool} {rF : List Nat} (hp : p ≤ buf.length)
  (hrun : (if dn = true then Ph.done else Ph.sp).run px cm (Str.ofString "") false (buf.cps.toList.drop p) = some (tokF, qF, fin, rF))
  (N : News h₀ L s.heap ((lex, instObj 739 dlex) :: (dlex, shD w k io pb fs px eof cm wc (if dn then .none else .str (Str.ofString " ") t1) ln tln (Str.ofString "") ttk) :: (io, instObj 604 dio) :: (dio, ioD w k buf (p : Int) t6) :: (pb, dqO) :: (fs, dqO) :: rest))
  (heof : eof = if px = true then .none else .str (Str.ofString "") (k 27))
  (hret : ∀ v h' tk' t1 t2 t6 ln tln, RetV px tokF qF v → rF = buf.cps.toList.drop (buf.length - rF.length) → Fr h₀ L h' m → News h₀ L h' ((lex, instObj 739 dlex) :: (dlex, shD w k io pb fs px eof cm wc (if fin then .none else .str (Str.ofString " ") t1) ln tln (Str.ofString "") t2) :: (io, instObj 604 dio) :: (dio, ioD w k buf ((buf.length - rF.length : Nat) : Int) t6) :: (pb, dqO) :: (fs, dqO) :: rest) → Q v { s with heap := h', toks := tk' }) :
  wpAny (model PySem.Challenge.rw_il0144_01.row.prog w) (ktrTop dp un gd cn cs L a ccd cl outer) (call (.ref 700) [.ref lex]) Q E s := by
  revert X; k_fill; intro X
  refine wpAny_call ?_
  walk_at "my enter"
  cases px
  · rw [if_neg (by decide)] at heof
    subst heof
    have hz : ¬ (false = true ∧ qF = false ∧ tokF = Str.ofString "") := fun h => by cases h.1
    by_cases ht : tokF = Str.ofString ""
    · subst ht
      k_steps
      exact hret _ _ _ _ _ _ _ _ (by unfold RetV; rw [if_neg hz]; exact ⟨_, rfl⟩) (by assumption) (by k_asm) (by walk_at "my asm")
    · have hte : (tokF == Str.ofString "") = false := beq_eq_false_iff_ne.mpr ht
      k_steps
      exact hret _ _ _ _ _ _ _ _ (by unfold RetV; rw [if_neg hz]; exact ⟨_, rfl⟩) (by assumption) (by k_asm) (by walk_at "my asm")
  · rw [if_pos rfl] at heof
    subst heof
    by_cases hz : true = true ∧ qF = false ∧ tokF = Str.ofString ""
    · k_steps
      exact hret _ _ _ _ _ _ _ _ (by unfold RetV; rw [if_pos hz]) (by assumption) (by k_asm) (by walk_at "my asm")
    · k_steps
      exact hret _ _ _ _ _ _ _ _ (by unfold RetV; rw [if_neg hz]; exact ⟨_, rfl⟩) (by assumption) (by k_asm) (by walk_at "my asm")
end
section
variable {w : World} {p0 : Program} {lo0 : List Str} {mean : ExcName → Option Value} {mg mb : Str → Option Value} {dp un : Nat} {gd : Option (List Code)} {cn : Str} {cs : Scope} {a : Addr} {ccd : Value} {cl : List (Str × Addr)} {outer : List Env} {A₀ : Around} {base h₀ : Heap} {L : Addr} {m : Str → Option Value} {s : Shared} {Q E : Value → Shared → Prop}
  {lex dlex io dio pb fs : Nat} {rest : List (Addr × Obj)} {k : Nat → Tok} {t1 ttk t6 tln : Tok} {buf cm wc : Str} {px dn : Bool} {eof : Value} {p : Nat} {ln : Int}
  (B : Below A₀ base outer h₀) (F : Fr h₀ L s.heap m) (X : (hd.heap_39 w.params).In h₀) (T : Top p0 lo0 mean mg mb h₀) (hk : cs.kind = .function)
  (hne : lex ≠ dlex) (hne1 : lex ≠ dio) (hne2 : dlex ≠ dio) (hne3 : io ≠ dio) (hne4 : pb ≠ dio) (hne5 : fs ≠ dio) (hr1 : ∀ q ∈ rest, q.1 ≠ dio)
  (hdl1 : io ≠ dlex) (hdl2 : pb ≠ dlex) (hdl3 : fs ≠ dlex) (hdl4 : ∀ q ∈ rest, q.1 ≠ dlex)
  (hdp : dp + 30 < recursionLimit) (hun : un + 120 < cLine) (hb : buf.length ≤ 50000) (hwq : ∀ c, inS wc c = true → inS (Str.ofString "'\"") c = false)
include B F X T hk hne hne1 hne2 hne3 hne4 hne5 hr1 hdl1 hdl2 hdl3 hdl4 hdp hun hb hwq
theorem get_token_N {tokF : Str} {qF fin : Bool} {rF : List Nat} (hp : p ≤ buf.length)
  (hrun : (if dn = true then Ph.done else Ph.sp).run px cm (Str.ofString "") false (buf.cps.toList.drop p) = some (tokF, qF, fin, rF))
  (N : News h₀ L s.heap ((lex, instObj 739 dlex) :: (dlex, shD w k io pb fs px eof cm wc (if dn then .none else .str (Str.ofString " ") t1) ln tln (Str.ofString "") ttk) :: (io, instObj 604 dio) :: (dio, ioD w k buf (p : Int) t6) :: (pb, dqO) :: (fs, dqO) :: rest))
  (heof : eof = if px = true then .none else .str (Str.ofString "") (k 27))
  (hz : px = true ∧ qF = false ∧ tokF = Str.ofString "")
  (hret : ∀ h' tk' t1 t2 t6 ln tln, rF = buf.cps.toList.drop (buf.length - rF.length) → Fr h₀ L h' m → News h₀ L h' ((lex, instObj 739 dlex) :: (dlex, shD w k io pb fs px eof cm wc (if fin then .none else .str (Str.ofString " ") t1) ln tln (Str.ofString "") t2) :: (io, instObj 604 dio) :: (dio, ioD w k buf ((buf.length - rF.length : Nat) : Int) t6) :: (pb, dqO) :: (fs, dqO) :: rest) → Q .none { s with heap := h', toks := tk' }) :
  wpAny (model PySem.Challenge.rw_il0144_01.row.prog w) (ktrTop dp un gd cn cs L a ccd cl outer) (call (.ref 700) [.ref lex]) Q E s := by
  refine get_token_spec B F X T hk hne hne1 hne2 hne3 hne4 hne5 hr1 hdl1 hdl2 hdl3 hdl4 hdp hun hb hwq hp hrun N heof ?_
  intro v h' tk' t1 t2 t6 ln tln hv
  unfold RetV at hv
  rw [if_pos hz] at hv
  subst hv
  exact hret _ _ _ _ _ _ _
theorem get_token_S {tokF : Str} {qF fin : Bool} {rF : List Nat} (hp : p ≤ buf.length)
  (hrun : (if dn = true then Ph.done else Ph.sp).run px cm (Str.ofString "") false (buf.cps.toList.drop p) = some (tokF, qF, fin, rF))
  (N : News h₀ L s.heap ((lex, instObj 739 dlex) :: (dlex, shD w k io pb fs px eof cm wc (if dn then .none else .str (Str.ofString " ") t1) ln tln (Str.ofString "") ttk) :: (io, instObj 604 dio) :: (dio, ioD w k buf (p : Int) t6) :: (pb, dqO) :: (fs, dqO) :: rest))
  (heof : eof = if px = true then .none else .str (Str.ofString "") (k 27))
  (hz : ¬ (px = true ∧ qF = false ∧ tokF = Str.ofString ""))
  (hret : ∀ t h' tk' t1 t2 t6 ln tln, rF = buf.cps.toList.drop (buf.length - rF.length) → Fr h₀ L h' m → News h₀ L h' ((lex, instObj 739 dlex) :: (dlex, shD w k io pb fs px eof cm wc (if fin then .none else .str (Str.ofString " ") t1) ln tln (Str.ofString "") t2) :: (io, instObj 604 dio) :: (dio, ioD w k buf ((buf.length - rF.length : Nat) : Int) t6) :: (pb, dqO) :: (fs, dqO) :: rest) → Q (.str tokF t) { s with heap := h', toks := tk' }) :
  wpAny (model PySem.Challenge.rw_il0144_01.row.prog w) (ktrTop dp un gd cn cs L a ccd cl outer) (call (.ref 700) [.ref lex]) Q E s := by
  refine get_token_spec B F X T hk hne hne1 hne2 hne3 hne4 hne5 hr1 hdl1 hdl2 hdl3 hdl4 hdp hun hb hwq hp hrun N heof ?_
  intro v h' tk' t1 t2 t6 ln tln hv
  unfold RetV at hv
  rw [if_neg hz] at hv
  obtain ⟨t, rfl⟩ := hv
  exact hret _ _ _ _ _ _ _ _
end
section
variable {M : Model} {A A₀ : Around} {E : Value → Shared → Prop} {s : Shared} {base g G : Heap} {L a e t : Addr} {m : Str → Option Value}
theorem owit_stopS {Q : Option Value → Shared → Prop} {outer : List Env} {env : Env} {vs : List Value} {news : List (Addr × Obj)}
    (hfr : env.frame = some L) (R : RaisedS base G (env :: outer) e (.type "StopIteration") t vs news s.heap) (F : Fr g L G m) (K : Below A₀ base outer g) (hsm : G.UpToSlots s.heap)
    (k : ∀ g', KtsTurn (outer.filterMap (·.frame)) g g' → Fr g' L s.heap m → News g' L s.heap news → Below A₀ base outer g' → Q none s) : OwitStop M A Q E (.ref e) s := by
  obtain ⟨⟨B, hB, hBG, hl, hfl, _⟩, _⟩ := R
  have hL : B.get? L = none := by
    obtain ⟨_, ⟨L', _, hf, hn', _⟩, _⟩ := hfl.2.2.1
    rw [hfr] at hf
    obtain rfl : L = L' := Option.some.inj hf
    exact hn'
  have hlst : (env :: outer).filterMap (·.frame) = (envOf (Str.ofString "") default L L .none :: outer).filterMap (·.frame) := by
    rw [List.filterMap_cons, List.filterMap_cons, hfr]
    rfl
  rw [hlst] at hBG
  obtain ⟨g', T', F', K'⟩ := kts_ground K F hBG hfl.1 hsm
  obtain ⟨ob, hob, hobc⟩ := hfl.there
  have hT : s.TypeIs (.ref e) "StopIteration" := (show ∃ o, s.heap.get? e = some o ∧ o.cls = .type "StopIteration" from ⟨ob, hob, hobc⟩)
  unfold OwitStop
  have hsub : isSubtype (.type "StopIteration") (.type "StopIteration") = pure true := by rw [isSubtype_type]; kernel_rfl
  refine wpAny_isInstance hT hsub ?_
  show (if true = true then Q none s else E (.ref e) s)
  rw [if_pos rfl]
  exact k g' T' F' (fun q hq => ⟨hfl.1 _ _ (hl q hq).1, (fun z => by have := (hl q hq).1; rw [z, hL] at this; cases this), T'.none_ _ (kts_none F.keep (hl q hq).2.1)⟩) K'
end
local macro_rules | `(tactic| walk_at "call ref") => `(tactic| (k_here; (with_reducible show wpAny _ _ (call (Value.ref 700) _) _ _ _); k_dflt (first | (refine' get_token_N ?kB ?kF ?kX ?kT ?kk ?a1 ?a2 ?a3 ?a4 ?a5 ?a6 ?a7 ?a8 ?a9 ?b1 ?b2 ?hdp ?hun ?b3 ?b4 ?b5 ?b6 ?kN ?b8 ?b7 ?_; (case b7 => assumption); (case kB => k_asm); (case kF => k_asm); (case kX => k_asm); (case kT => k_asm); (case kk => rfl); (case kN => k_asm); (case b8 => exact rfl); (case a1 => assumption); (case a2 => assumption); (case a3 => assumption); (case a4 => assumption); (case a5 => assumption); (case a6 => assumption); (case a7 => assumption); (case a8 => assumption); (case a9 => assumption); (case b1 => assumption); (case b2 => assumption); (case b3 => assumption); (case b4 => assumption); (case b5 => assumption); (case b6 => assumption); (case hdp => k_room); (case hun => k_units); intro h9 tk9 t91 t92 t93 ln9 tln9 hrF9 F9 N9; (try dsimp only)) | (refine' get_token_S ?kB ?kF ?kX ?kT ?kk ?a1 ?a2 ?a3 ?a4 ?a5 ?a6 ?a7 ?a8 ?a9 ?b1 ?b2 ?hdp ?hun ?b3 ?b4 ?b5 ?b6 ?kN ?b8 ?b7 ?_; (case b7 => assumption); (case kB => k_asm); (case kF => k_asm); (case kX => k_asm); (case kT => k_asm); (case kk => rfl); (case kN => k_asm); (case b8 => exact rfl); (case a1 => assumption); (case a2 => assumption); (case a3 => assumption); (case a4 => assumption); (case a5 => assumption); (case a6 => assumption); (case a7 => assumption); (case a8 => assumption); (case a9 => assumption); (case b1 => assumption); (case b2 => assumption); (case b3 => assumption); (case b4 => assumption); (case b5 => assumption); (case b6 => assumption); (case hdp => k_room); (case hun => k_units); intro tt9 h9 tk9 t91 t92 t93 ln9 tln9 hrF9 F9 N9; (try dsimp only)))))
local macro_rules | `(tactic| walk_at "OwitStop") => `(tactic| ((rename RaisedS _ _ _ _ _ _ _ _ _ => rsX); k_dflt (refine' owit_stopS rfl rsX ?F ?K ?U ?_; (case F => assumption); (case K => assumption); (case U => assumption)); intro g9 T9 F9 N9 B9; (try dsimp only)))
/-- the reader's token at the end -/
def IsEnd (px : Bool) (tok : Str) (qd : Bool) : Prop := tok = Str.ofString "" ∧ (px = true → qd = false)
section
variable {w : World} {p0 : Program} {lo0 : List Str} {mean : ExcName → Option Value} {mg mb : Str → Option Value} {dp un : Nat} {gd : Option (List Code)} {cn : Str} {cs : Scope} {a : Addr} {ccd : Value} {cl : List (Str × Addr)} {outer : List Env} {A₀ : Around} {base h₀ : Heap} {L : Addr} {m : Str → Option Value} {s : Shared} {E : Value → Shared → Prop}
  {lex dlex io dio pb fs : Nat} {rest : List (Addr × Obj)} {k : Nat → Tok} {t1 ttk t6 tln : Tok} {buf cm wc : Str} {px dn : Bool} {eof : Value} {p : Nat} {ln : Int}
  (B : Below A₀ base outer h₀) (F : Fr h₀ L s.heap m) (X : (hd.heap_39 w.params).In h₀) (T : Top p0 lo0 mean mg mb h₀) (hk : cs.kind = .function)
  (hne : lex ≠ dlex) (hne1 : lex ≠ dio) (hne2 : dlex ≠ dio) (hne3 : io ≠ dio) (hne4 : pb ≠ dio) (hne5 : fs ≠ dio) (hr1 : ∀ q ∈ rest, q.1 ≠ dio)
  (hdl1 : io ≠ dlex) (hdl2 : pb ≠ dlex) (hdl3 : fs ≠ dlex) (hdl4 : ∀ q ∈ rest, q.1 ≠ dlex)
  (hdp : dp + 36 < recursionLimit) (hun : un + 140 < cLine) (hb : buf.length ≤ 50000) (hwq : ∀ c, inS wc c = true → inS (Str.ofString "'\"") c = false)
include B F X T hk hne hne1 hne2 hne3 hne4 hne5 hr1 hdl1 hdl2 hdl3 hdl4 hdp hun hb hwq
theorem next_spec {tokF : Str} {qF fin : Bool} {rF : List Nat} {Q : Option Value → Shared → Prop} (hp : p ≤ buf.length)
  (hrun : (if dn = true then Ph.done else Ph.sp).run px cm (Str.ofString "") false (buf.cps.toList.drop p) = some (tokF, qF, fin, rF))
  (N : News h₀ L s.heap ((lex, instObj 739 dlex) :: (dlex, shD w k io pb fs px eof cm wc (if dn then .none else .str (Str.ofString " ") t1) ln tln (Str.ofString "") ttk) :: (io, instObj 604 dio) :: (dio, ioD w k buf (p : Int) t6) :: (pb, dqO) :: (fs, dqO) :: rest))
  (heof : eof = if px = true then .none else .str (Str.ofString "") (k 27))
  (hitem : ¬ IsEnd px tokF qF → ∀ t h' tk' t1 t2 t6 ln tln, rF = buf.cps.toList.drop (buf.length - rF.length) → Fr h₀ L h' m → News h₀ L h' ((lex, instObj 739 dlex) :: (dlex, shD w k io pb fs px eof cm wc (if fin then .none else .str (Str.ofString " ") t1) ln tln (Str.ofString "") t2) :: (io, instObj 604 dio) :: (dio, ioD w k buf ((buf.length - rF.length : Nat) : Int) t6) :: (pb, dqO) :: (fs, dqO) :: rest) → Q (some (.str tokF t)) { s with heap := h', toks := tk' })
  (hstop : IsEnd px tokF qF → ∀ g' h' tk' t1 t2 t6 ln tln, KtsTurn (outer.filterMap (·.frame)) h₀ g' → Fr g' L h' m → News g' L h' ((lex, instObj 739 dlex) :: (dlex, shD w k io pb fs px eof cm wc (if fin then .none else .str (Str.ofString " ") t1) ln tln (Str.ofString "") t2) :: (io, instObj 604 dio) :: (dio, ioD w k buf ((buf.length - rF.length : Nat) : Int) t6) :: (pb, dqO) :: (fs, dqO) :: rest) → Below A₀ base outer g' → Q none { s with heap := h', toks := tk' }) :
  wpAny (model PySem.Challenge.rw_il0144_01.row.prog w) (ktrTop dp un gd cn cs L a ccd cl outer) (pyNext (.ref lex)) Q E s := by
  revert X; k_fill; intro X
  k_dflt (refine' owit_next (f := 736) (C := 739) ?kF ?kX ?kI ?hs ?hf ?_; (case kF => k_asm); (case kX => k_asm); (case kI => k_inst); (case hs => k_is); (case hf => k_is); k_whole)
  refine wpAny_call ?_
  have kD0 := ktsDicts_nil (g := h₀)
  walk_at "my enter"
  cases px
  · rw [if_neg (by decide)] at heof
    subst heof
    have hz : ¬ (false = true ∧ qF = false ∧ tokF = Str.ofString "") := fun h => by cases h.1
    by_cases ht : tokF = Str.ofString ""
    · subst ht
      k_steps
      exact hstop ⟨rfl, (fun h => by cases h)⟩ _ _ _ _ _ _ _ _ (by assumption) (by assumption) (by walk_at "my asm") (by assumption)
    · have hte : (tokF == Str.ofString "") = false := beq_eq_false_iff_ne.mpr ht
      k_steps
      exact hitem (fun h => ht h.1) _ _ _ _ _ _ _ _ (by assumption) (by k_asm) (by walk_at "my asm")
  · rw [if_pos rfl] at heof
    subst heof
    by_cases hz : true = true ∧ qF = false ∧ tokF = Str.ofString ""
    · k_steps
      exact hstop ⟨hz.2.2, fun _ => hz.2.1⟩ _ _ _ _ _ _ _ _ (by assumption) (by assumption) (by walk_at "my asm") (by assumption)
    · k_steps
      exact hitem (fun h => hz ⟨rfl, h.2 rfl, h.1⟩) _ _ _ _ _ _ _ _ (by assumption) (by k_asm) (by walk_at "my asm")
end
/-- the reader's tokens, one after the other, from a text's rest on -/
inductive Reads (px : Bool) (cm : Str) : Bool → List Nat → List Str → Prop
  | stop {dn : Bool} {r r' : List Nat} {tok : Str} {q fin : Bool} (h : (if dn = true then Ph.done else Ph.sp).run px cm (Str.ofString "") false r = some (tok, q, fin, r')) (e : IsEnd px tok q) : Reads px cm dn r []
  | item {dn : Bool} {r r' : List Nat} {tok : Str} {q fin : Bool} {ts : List Str} (h : (if dn = true then Ph.done else Ph.sp).run px cm (Str.ofString "") false r = some (tok, q, fin, r')) (e : ¬ IsEnd px tok q) (n : Reads px cm fin r' ts) : Reads px cm dn r (tok :: ts)
theorem strs_snoc {t : Tok} {x : Str} : ∀ {vs : List Value} {ws : List Str}, StrsAre vs ws → StrsAre (vs ++ [.str x t]) (ws ++ [x])
  | _, _, .nil => .cons _ _ .nil
  | _, _, .cons _ _ r => .cons _ _ (strs_snoc r)
noncomputable abbrev LexL (w : World) (k : Nat → Tok) (lex dlex io dio pb fs : Nat) (px : Bool) (eof : Value) (cm wc buf : Str) (dn : Bool) (p : Nat) (t1 ttk t6 tln : Tok) (ln : Int) (rest : List (Addr × Obj)) : List (Addr × Obj) :=
  (lex, instObj 739 dlex) :: (dlex, shD w k io pb fs px eof cm wc (if dn then .none else .str (Str.ofString " ") t1) ln tln (Str.ofString "") ttk) :: (io, instObj 604 dio) :: (dio, ioD w k buf (p : Int) t6) :: (pb, dqO) :: (fs, dqO) :: rest
section
variable {w : World} {p0 : Program} {lo0 : List Str} {mean : ExcName → Option Value} {mg mb : Str → Option Value} {dp un : Nat} {gd : Option (List Code)} {cn : Str} {cs : Scope} {a : Addr} {ccd : Value} {cl : List (Str × Addr)} {outer : List Env} {A₀ : Around} {base h₀ : Heap} {L : Addr} {m : Str → Option Value} {E : Value → Shared → Prop}
  {lex dlex io dio pb fs S : Nat} {rest : List (Addr × Obj)} {k : Nat → Tok} {buf cm wc : Str} {px : Bool} {eof : Value}
  (B : Below A₀ base outer h₀) (X : (hd.heap_39 w.params).In h₀) (T : Top p0 lo0 mean mg mb h₀) (hk : cs.kind = .function)
  (hne : lex ≠ dlex) (hne1 : lex ≠ dio) (hne2 : dlex ≠ dio) (hne3 : io ≠ dio) (hne4 : pb ≠ dio) (hne5 : fs ≠ dio) (hr1 : ∀ q ∈ rest, q.1 ≠ dio)
  (hdl1 : io ≠ dlex) (hdl2 : pb ≠ dlex) (hdl3 : fs ≠ dlex) (hdl4 : ∀ q ∈ rest, q.1 ≠ dlex)
  (hS : ∀ q ∈ [lex, dlex, io, dio, pb, fs], q ≠ S) (hS0 : ∀ q ∈ rest, q.1 ≠ S)
  (hdp : dp + 36 < recursionLimit) (hun : un + 145 < cLine) (hb : buf.length ≤ 50000) (hwq : ∀ c, inS wc c = true → inS (Str.ofString "'\"") c = false)
  (heof : eof = if px = true then .none else .str (Str.ofString "") (k 27))
include B X T hk hne hne1 hne2 hne3 hne4 hne5 hr1 hdl1 hdl2 hdl3 hdl4 hS hS0 hdp hun hb hwq heof
theorem ext_loop {ts : List Str} {dn : Bool} {r : List Nat} (Rd : Reads px cm dn r ts) : ∀ {R : Result → Shared → Prop} {s : Shared} {p : Nat} {t1 ttk t6 tln : Tok} {ln : Int} {acc : Array Value} {c : Nat}, r = buf.cps.toList.drop p → p ≤ buf.length → acc.size + ts.length ≤ 60000 → Fr h₀ L s.heap m →
    News h₀ L s.heap (LexL w k lex dlex io dio pb fs px eof cm wc buf dn p t1 ttk t6 tln ln ((S, listOf acc c) :: rest)) →
    (∀ g' h' tk' vs c', KtsTurn (outer.filterMap (·.frame)) h₀ g' → Fr g' L h' m → News g' L h' ((S, listOf (acc ++ vs) c') :: rest) → Below A₀ base outer g' → StrsAre vs.toList ts → R (.ok (.ret .none)) { s with heap := h', toks := tk' }) →
    codeAny (model PySem.Challenge.rw_il0144_01.row.prog w) (ktrTop dp un gd cn cs L a ccd cl outer) (.builtin "list.extend.loop" ⟨[.ref S, .ref lex, .none], []⟩) R s := by
  have n1 : ∀ {o : Obj}, ∀ q ∈ (S, o) :: rest, q.1 ≠ dio := fun q hq => by
    rcases List.mem_cons.mp hq with rfl | hq
    · exact (hS dio (by simp)).symm
    · exact hr1 q hq
  have n2 : ∀ {o : Obj}, ∀ q ∈ (S, o) :: rest, q.1 ≠ dlex := fun q hq => by
    rcases List.mem_cons.mp hq with rfl | hq
    · exact (hS dlex (by simp)).symm
    · exact hdl4 q hq
  induction Rd with
  | stop hrun he =>
    intro R s p t1 ttk t6 tln ln acc c hr hp hsz F N hret
    subst hr
    refine codeAny_builtin PySem.F.entry_extend_loop ?_
    rw [Around.under_plainId PySem.F.plain_extend_loop _]
    show wpAny _ (ktrTop dp (un + 1) gd cn cs L a ccd cl outer) (pyNext (.ref lex) >>= _) _ _ s
    refine wpAny_bind (next_spec B F X T hk hne hne1 hne2 hne3 hne4 hne5 n1 hdl1 hdl2 hdl3 n2 hdp (by omega) hb hwq hp hrun N heof (fun h => absurd he h) fun _ g' h' tk' t1 t2 t6 ln tln T' F' N' B' => wpAny_pure ?_)
    refine hret g' h' tk' #[] c T' F' ?_ B' .nil
    rw [Array.append_empty]
    exact news_tail (news_tail (news_tail (news_tail (news_tail (news_tail N')))))
  | item hrun he nx ih =>
    rename_i tok q fin ts
    intro R s p t1 ttk t6 tln ln acc c hr hp hsz F N hret
    subst hr
    refine codeAny_builtin PySem.F.entry_extend_loop ?_
    rw [Around.under_plainId PySem.F.plain_extend_loop _]
    show wpAny _ (ktrTop dp (un + 1) gd cn cs L a ccd cl outer) (pyNext (.ref lex) >>= _) _ _ s
    refine wpAny_bind (next_spec B F X T hk hne hne1 hne2 hne3 hne4 hne5 n1 hdl1 hdl2 hdl3 n2 hdp (by omega) hb hwq hp hrun N heof (fun _ t h' tk' t1 t2 t6 ln tln hrF F' N' => ?_) fun h => absurd h he)
    show wpAny _ _ (updateSeq S (·.push (.str tok t)) >>= _) _ _ _
    have zN := N' (S, listOf acc c) (.tail _ (.tail _ (.tail _ (.tail _ (.tail _ (.tail _ (.head _)))))))
    have hsz' : acc.size + (ts.length + 1) ≤ 60000 := hsz
    have hline : sizeLine = 16777216 := rfl
    refine wpAny_bind (wpAny_updateSeq zN.1 rfl (wpAny_pure ⟨plainId_quiet PySem.F.plain_extend_loop _, ?_⟩) (by omega) (by show (acc.push _).size ≤ _; rw [Array.size_push]; omega))
    have hs : Heap.SameBut S h' (h'.update S (Obj.mapSeq (·.push (.str tok t)))) := Heap.SameBut.update ..
    have ho : (h'.update S (Obj.mapSeq (·.push (.str tok t)))).get? S = some (listOf (acc.push (.str tok t)) (c + 1)) := by
      rw [Heap.get?_update_self _ zN.1 rfl]
      simp [Obj.mapSeq]
    have F2 := F'.change hs zN.2.1 zN.2.2
    have N2 := news_set (pre := [(lex, instObj 739 dlex), (dlex, shD w k io pb fs px eof cm wc (if fin then .none else .str (Str.ofString " ") t1) ln tln (Str.ofString "") t2), (io, instObj 604 dio), (dio, ioD w k buf ((buf.length - _ : Nat) : Int) t6), (pb, dqO), (fs, dqO)]) N' (by
      intro q hq
      refine hS q.1 ?_
      have := List.mem_map_of_mem (f := Prod.fst) hq
      simpa using this) hS0 hs ho
    refine ih hrF (Nat.sub_le _ _) (by rw [Array.size_push]; omega) F2 N2 fun g' h'' tk'' vs c' T' F3 N3 B3 hv => ?_
    refine hret g' h'' tk'' (#[.str tok t] ++ vs) c' T' F3 ?_ B3 ?_
    · have e : acc.push (.str tok t) ++ vs = acc ++ (#[.str tok t] ++ vs) := Array.ext' (by rw [Array.toList_append, Array.toList_append, Array.toList_append, Array.toList_push, List.append_assoc])
      rw [← e]
      exact N3
    · rw [Array.toList_append]
      exact .cons _ _ hv
end
theorem news_mid {h₀ h : Heap} {L : Addr} {pre post : List (Addr × Obj)} {x : Addr × Obj} (N : News h₀ L h (x :: (pre ++ post))) : News h₀ L h (pre ++ x :: post) := fun q hq => N q (List.perm_middle.mem_iff.mp hq)
section
variable {w : World} {p0 : Program} {lo0 : List Str} {mean : ExcName → Option Value} {mg mb : Str → Option Value} {dp un : Nat} {gd : Option (List Code)} {cn : Str} {cs : Scope} {a : Addr} {ccd : Value} {cl : List (Str × Addr)} {outer : List Env} {A₀ : Around} {base h₀ : Heap} {L : Addr} {m : Str → Option Value} {s : Shared} {E : Value → Shared → Prop}
  {lex dlex io dio pb fs : Nat} {rest : List (Addr × Obj)} {k : Nat → Tok} {buf cm wc : Str} {px dn : Bool} {eof : Value} {t1 ttk t6 tln : Tok} {ln : Int} {p : Nat}
theorem iter_spec {Q : Value → Shared → Prop} (B : Below A₀ base outer h₀) (F : Fr h₀ L s.heap m) (X : (hd.heap_39 w.params).In h₀) (T : Top p0 lo0 mean mg mb h₀) (hk : cs.kind = .function) (hdp : dp + 36 < recursionLimit) (hun : un + 145 < cLine)
  (N : News h₀ L s.heap (LexL w k lex dlex io dio pb fs px eof cm wc buf dn p t1 ttk t6 tln ln rest))
  (hret : ∀ h' tk', Fr h₀ L h' m → News h₀ L h' (LexL w k lex dlex io dio pb fs px eof cm wc buf dn p t1 ttk t6 tln ln rest) → Q (.ref lex) { s with heap := h', toks := tk' }) :
  wpAny (model PySem.Challenge.rw_il0144_01.row.prog w) (ktrTop dp un gd cn cs L a ccd cl outer) (pyIter (.ref lex)) Q E s := by
  revert X; k_fill; intro X
  k_dflt (refine' owit_iter (f := 729) (C := 739) ?kF ?kX ?kI ?hs ?hf ?_; (case kF => k_asm); (case kX => k_asm); (case kI => k_inst); (case hs => k_is); (case hf => k_is); k_whole)
  refine wpAny_call ?_
  walk_at "my enter"
  k_steps
  exact hret _ _ (by k_asm) (by walk_at "my asm")
theorem list_lex {Q : Value → Shared → Prop} {ts : List Str} (B : Below A₀ base outer h₀) (F : Fr h₀ L s.heap m) (X : (hd.heap_39 w.params).In h₀) (T : Top p0 lo0 mean mg mb h₀) (hk : cs.kind = .function)
  (hne : lex ≠ dlex) (hne1 : lex ≠ dio) (hne2 : dlex ≠ dio) (hne3 : io ≠ dio) (hne4 : pb ≠ dio) (hne5 : fs ≠ dio) (hr1 : ∀ q ∈ rest, q.1 ≠ dio)
  (hdl1 : io ≠ dlex) (hdl2 : pb ≠ dlex) (hdl3 : fs ≠ dlex) (hdl4 : ∀ q ∈ rest, q.1 ≠ dlex)
  (hdp : dp + 36 < recursionLimit) (hun : un + 150 < cLine) (hb : buf.length ≤ 50000) (hwq : ∀ c, inS wc c = true → inS (Str.ofString "'\"") c = false)
  (heof : eof = if px = true then .none else .str (Str.ofString "") (k 27)) (Rd : Reads px cm dn (buf.cps.toList.drop p) ts) (hp : p ≤ buf.length) (hts : ts.length ≤ 60000)
  (N : News h₀ L s.heap (LexL w k lex dlex io dio pb fs px eof cm wc buf dn p t1 ttk t6 tln ln rest))
  (hret : ∀ (S : Addr) g' h' tk' vs c, KtsTurn (outer.filterMap (·.frame)) h₀ g' → Fr g' L h' m → News g' L h' ((S, listOf vs c) :: rest) → (∀ q ∈ rest, q.1 < S) → Below A₀ base outer g' → StrsAre vs.toList ts → Q (.ref S) { s with heap := h', toks := tk' }) :
  wpAny (model PySem.Challenge.rw_il0144_01.row.prog w) (ktrTop dp un gd cn cs L a ccd cl outer) (call (.type "list") [.ref lex]) Q E s := by
  have hlt : ∀ q ∈ LexL w k lex dlex io dio pb fs px eof cm wc buf dn p t1 ttk t6 tln ln rest, q.1 < s.heap.objs.size := fun q hq => Heap.lt_size (N q hq).1
  refine callType_codes (Q₁ := fun obj s₁ => obj = .ref s.heap.objs.size ∧ s₁ = { s with heap := s.heap.push { cls := .type "list", data := .seq #[] } }) PySem.F.called_list (PySem.F.typeCall_list_1 _) PySem.F.entry_list_init (code_list_new _ ⟨rfl, rfl⟩) fun obj s₁ h₁ => ?_
  obtain ⟨rfl, rfl⟩ := h₁
  generalize hSe : s.heap.objs.size = S at hlt
  have hS : (s.heap.push { cls := .type "list", data := .seq #[] }).get? S = some (listOf #[] 0) := hSe ▸ Heap.get?_push_size _ rfl
  have F1 := F.push { cls := .type "list", data := .seq #[] }
  have N1 : News h₀ L (s.heap.push { cls := .type "list", data := .seq #[] }) ((S, listOf #[] 0) :: LexL w k lex dlex io dio pb fs px eof cm wc buf dn p t1 ttk t6 tln ln rest) := hSe ▸ News.push F N _
  have hSn : ∀ q ∈ LexL w k lex dlex io dio pb fs px eof cm wc buf dn p t1 ttk t6 tln ln rest, q.1 ≠ S := fun q hq => Nat.ne_of_lt (hlt q hq)
  refine ⟨⟨_, hS, rfl⟩, PySem.F.args_list_init_2 _ _, ?_⟩
  show wpAny _ _ (do let old ← Builtin.List.listItems (.ref S); Builtin.List.listUpdate (.ref S) (fun _ => #[]); letGo old.toList.reverse; Builtin.List.listExtendWith (.ref S) (.ref lex) .none) _ _ _
  refine wpAny_bind ?_
  unfold Builtin.List.listItems
  refine wpAny_bind (wpAny_seqItems hS rfl (wpAny_pure ?_))
  show wpAny _ _ (updateSeq S (fun _ => #[]) >>= fun _ => letGo (#[] : Array Value).toList.reverse >>= fun _ => Builtin.List.listExtendWith (.ref S) (.ref lex) .none) _ _ _
  refine wpAny_bind (wpAny_updateSeq hS rfl ?_)
  have U1 := Heap.get?_update_self (Obj.mapSeq (fun _ => (#[] : Array Value))) hS rfl
  have hs1 : Heap.SameBut S (s.heap.push { cls := .type "list", data := .seq #[] }) ((s.heap.push { cls := .type "list", data := .seq #[] }).update S (Obj.mapSeq (fun _ => (#[] : Array Value)))) := Heap.SameBut.update ..
  have zN := N1 _ (.head _)
  have F2 := F1.change hs1 zN.2.1 zN.2.2
  have N2 := news_set (pre := []) N1 (fun q hq => nomatch hq) hSn hs1 U1
  refine wpAny_bind (wpAny_letGo ?_)
  generalize (s.heap.push { cls := .type "list", data := .seq #[] }).update S (Obj.mapSeq (fun _ => (#[] : Array Value))) = hp2 at *
  unfold Builtin.List.listExtendWith
  have I : InstAt hp2 lex (instObj 739 dlex) 739 (some (shD w k io pb fs px eof cm wc (if dn then .none else .str (Str.ofString " ") t1) ln tln (Str.ofString "") ttk)) := ⟨N2.get (.tail _ (.head _)), rfl, rfl, N2.get (.tail _ (.tail _ (.head _)))⟩
  refine wpAny_bind (I.type.here ?_)
  have h1 : Builtin.List.listSameRef (.ref S) (.ref lex) = false := by
    have : S ≠ lex := (hSn (lex, instObj 739 dlex) (.head _)).symm
    simp only [Builtin.List.listSameRef]
    exact beq_eq_false_iff_ne.mpr this
  have h2 : (Value.ref 739 == Value.type "list") = false := rfl
  have h3 : (Value.ref 739 == Value.type "tuple") = false := rfl
  simp only [h1, h2, h3, Bool.or_false, Bool.false_eq_true, if_false]
  refine wpAny_bind (iter_spec (dp := dp) (un := un + 2) (gd := gd) (cn := cn) (cs := cs) (L := L) (a := a) (ccd := ccd) (cl := cl) (outer := outer) (dn := dn) (dlex := dlex) (io := io) (dio := dio) (pb := pb) (fs := fs) (k := k) (buf := buf) (cm := cm) (wc := wc) (px := px) (eof := eof) B F2 X T hk hdp (by omega) (rest := (S, Obj.mapSeq (fun _ => (#[] : Array Value)) (listOf #[] 0)) :: rest) (t1 := t1) (ttk := ttk) (t6 := t6) (tln := tln) (ln := ln) (p := p) ?_ ?_)
  · exact news_mid (pre := [(lex, _), (dlex, _), (io, _), (dio, _), (pb, _), (fs, _)]) N2
  intro hp3 tk3 F3 N3
  refine wpAny_bind (wpAny_holding ?_)
  have I3 : InstAt hp3 lex (instObj 739 dlex) 739 (some (shD w k io pb fs px eof cm wc (if dn then .none else .str (Str.ofString " ") t1) ln tln (Str.ofString "") ttk)) := ⟨N3.get (.head _), rfl, rfl, N3.get (.tail _ (.head _))⟩
  have X3 := X.keeps F3.keep
  unfold Builtin.List.listLengthHint
  refine wpAny_bind (wpAny_bind (I3.type.here ((looks_findIn X3 (show findIn (hd.heap_39 w.params) (.ref 739) (Str.ofString "__len__") = some none from by k_is)).here ?_)))
  show wpAny _ _ (specialOf (Value.ref lex) (Str.ofString "__length_hint__") >>= _) _ _ _
  refine wpAny_bind (wpAny_bind (I3.type.here ((looks_findIn X3 (show findIn (hd.heap_39 w.params) (.ref 739) (Str.ofString "__length_hint__") = some none from by k_is)).here ?_)))
  refine wpAny_pure ?_
  show wpAny _ _ (rule "list.extend.makes-room" >>= fun _ => Builtin.List.listTouch (.ref S) >>= fun _ =>
    again (.builtin "list.extend.loop" ⟨[.ref S, .ref lex, .none], []⟩)) _ _ _
  refine wpAny_bind (wpAny_rule ?_)
  refine wpAny_bind ?_
  show wpAny _ _ (updateSeq S (·.push .none) >>= fun _ => updateSeq S (·.pop)) _ _ _
  have hS3 := (N3 (S, _) (.tail _ (.tail _ (.tail _ (.tail _ (.tail _ (.tail _ (.head _)))))))).1
  have zN3 := (N3 (S, _) (.tail _ (.tail _ (.tail _ (.tail _ (.tail _ (.tail _ (.head _))))))))
  refine wpAny_bind (wpAny_updateSeq hS3 rfl ?_)
  have hS4 := Heap.get?_update_self (Obj.mapSeq (·.push Value.none)) hS3 rfl
  refine wpAny_updateSeq (hz := by seq_fits) hS4 rfl ?_
  have hS5 := Heap.get?_update_self (Obj.mapSeq (·.pop)) hS4 rfl
  have sb4 : Heap.SameBut S hp3 (hp3.update S (Obj.mapSeq (·.push Value.none))) := Heap.SameBut.update ..
  have sb5 : Heap.SameBut S (hp3.update S (Obj.mapSeq (·.push Value.none))) ((hp3.update S (Obj.mapSeq (·.push Value.none))).update S (Obj.mapSeq (·.pop))) := Heap.SameBut.update ..
  have F4 := (F3.change sb4 zN3.2.1 zN3.2.2).change sb5 zN3.2.1 zN3.2.2
  have pre_ne : ∀ q ∈ [(lex, instObj 739 dlex), (dlex, shD w k io pb fs px eof cm wc (if dn then .none else .str (Str.ofString " ") t1) ln tln (Str.ofString "") ttk), (io, instObj 604 dio), (dio, ioD w k buf (p : Int) t6), (pb, dqO), (fs, dqO)], q.1 ≠ S := fun q hq => hSn q (List.mem_append_left rest hq)
  have post_ne : ∀ q ∈ rest, q.1 ≠ S := fun q hq => hSn q (.tail _ (.tail _ (.tail _ (.tail _ (.tail _ (.tail _ hq))))))
  have N4 := news_set (pre := [(lex, _), (dlex, _), (io, _), (dio, _), (pb, _), (fs, _)]) (news_set (pre := [(lex, _), (dlex, _), (io, _), (dio, _), (pb, _), (fs, _)]) N3 pre_ne post_ne sb4 hS4) pre_ne post_ne sb5 hS5
  have e3 : Obj.mapSeq (fun x => x.pop) (Obj.mapSeq (fun x => x.push Value.none) (Obj.mapSeq (fun _ => (#[] : Array Value)) (listOf #[] 0))) = listOf #[] 2 := by simp [Obj.mapSeq]
  dsimp only at N4
  rw [e3] at N4
  refine wpAny_pure ⟨plainId_quiet PySem.F.plain_extend_loop _, ?_⟩
  refine ext_loop (dp := dp) (un := un + 1) (gd := gd) (cn := cn) (cs := cs) (L := L) (a := a) (ccd := ccd) (cl := cl) (outer := outer) (acc := #[]) (c := 2) B X T hk hne hne1 hne2 hne3 hne4 hne5 hr1 hdl1 hdl2 hdl3 hdl4 ?_ post_ne hdp (by omega) hb hwq heof Rd rfl hp (by simpa using hts) F4 N4 fun g' h' tk' vs c' T' F' N' B' hv => ?_
  · intro q hq
    have hq' : q ∈ [(lex, instObj 739 dlex), (dlex, shD w k io pb fs px eof cm wc (if dn then .none else .str (Str.ofString " ") t1) ln tln (Str.ofString "") ttk), (io, instObj 604 dio), (dio, ioD w k buf (p : Int) t6), (pb, dqO), (fs, dqO)].map Prod.fst := hq
    obtain ⟨z, hz, rfl⟩ := List.mem_map.mp hq'
    exact pre_ne z hz
  · rw [Array.empty_append] at N'
    exact ⟨rfl, hret S g' h' tk' vs c' T' F' N' (fun q hq => hlt q (.tail _ (.tail _ (.tail _ (.tail _ (.tail _ (.tail _ hq))))))) B' hv⟩
end
section
open PySem.Sre
def srCode : Array Nat := #[14, 17, 4, 1, 1, 21, 9, 0, 604043296, 1, 0, 0, 0, 0, 0, 8, 4, 0, 13, 14, 21, 9, 0, 604043296, 1, 0, 0, 0, 0, 0, 8, 4, 0, 1]
def safeL : List Nat := (Str.ofString "abcdefghijklmnopqrstuvwxyzABCDEFGHIJKLMNOPQRSTUVWXYZ0123456789_@%+=:,./-").cps.toList
/-- a sign that quote leaves bare -/
def safeC (c : Nat) : Bool := decide (c ∈ safeL)
def setRaw (c : Nat) : Bool := (decide (c < 256) && ((srCode.getD (7 + c / 32) 0).testBit (c % 32))) || isWord c
theorem setRaw_safe (c : Nat) : setRaw c = safeC c := by
  by_cases h : c < 256
  · have key : ∀ c : Fin 256, setRaw c.val = safeC c.val := by decide +kernel
    exact key ⟨c, h⟩
  · have h1 : safeC c = false := by
      have all : ∀ x ∈ safeL, x < 256 := by decide +kernel
      exact decide_eq_false fun hm => h (all c hm)
    rw [h1]
    unfold setRaw isWord isDigit
    simp
    omega
theorem inSet5 (c : Nat) (seen : Sre.Seen) : ∃ seen', inSet srCode c srCode.size 5 true seen = .ok (!safeC c, seen') := by
  rw [← setRaw_safe]
  have e0 : srCode.size = 30 + 1 + 1 + 1 + 1 := rfl
  rw [e0]
  have o5 : ops[srCode.getD (5 + 0) 0]? = some .NEGATE := rfl
  have o6 : ops[srCode.getD (5 + 1 + 0) 0]? = some .CHARSET := rfl
  have o15 : ops[srCode.getD (5 + 1 + 9 + 0) 0]? = some .CATEGORY := rfl
  have o17 : ops[srCode.getD (5 + 1 + 9 + 2 + 0) 0]? = some .FAILURE := rfl
  have w16 : srCode.getD (5 + 1 + 9 + 1) 0 = 4 := rfl
  have hcat : category 4 c = .ok (isWord c) := by
    unfold category
    simp
    cases isWord c <;> rfl
  have hi : ∀ k, srCode.getD (5 + 1 + (1 + k)) 0 = srCode.getD (7 + k) 0 := fun k => by rw [show 5 + 1 + (1 + k) = 7 + k by omega]
  simp only [inSet, o5, o6, o15, o17, w16, hcat, hi]
  unfold setRaw
  cases h1 : (decide (c < 256) && (srCode.getD (7 + c / 32) 0).testBit (c % 32))
  · rw [if_neg (by decide)]
    cases h2 : isWord c
    · exact ⟨_, rfl⟩
    · exact ⟨_, rfl⟩
  · rw [if_pos rfl]
    exact ⟨_, rfl⟩
theorem inSet20 (c : Nat) (seen : Sre.Seen) : ∃ seen', inSet srCode c srCode.size 20 true seen = .ok (!safeC c, seen') := by
  rw [← setRaw_safe]
  have e0 : srCode.size = 30 + 1 + 1 + 1 + 1 := rfl
  rw [e0]
  have o5 : ops[srCode.getD (20 + 0) 0]? = some .NEGATE := rfl
  have o6 : ops[srCode.getD (20 + 1 + 0) 0]? = some .CHARSET := rfl
  have o15 : ops[srCode.getD (20 + 1 + 9 + 0) 0]? = some .CATEGORY := rfl
  have o17 : ops[srCode.getD (20 + 1 + 9 + 2 + 0) 0]? = some .FAILURE := rfl
  have w16 : srCode.getD (20 + 1 + 9 + 1) 0 = 4 := rfl
  have hcat : category 4 c = .ok (isWord c) := by
    unfold category
    simp
    cases isWord c <;> rfl
  have key : ∀ k : Fin 8, srCode.getD (20 + 1 + (1 + k.val)) 0 = srCode.getD (7 + k.val) 0 := by decide +kernel
  simp only [inSet, o5, o6, o15, o17, w16, hcat]
  have e : (decide (c < 256) && (srCode.getD (20 + 1 + (1 + c / 32)) 0).testBit (c % 32)) = (decide (c < 256) && (srCode.getD (7 + c / 32) 0).testBit (c % 32)) := by
    by_cases hc : c < 256
    · have hk := key ⟨c / 32, by omega⟩
      simp only at hk
      rw [hk]
    · rw [decide_eq_false hc, Bool.false_and, Bool.false_and]
  simp only [e]
  unfold setRaw
  cases h1 : (decide (c < 256) && (srCode.getD (7 + c / 32) 0).testBit (c % 32))
  · rw [if_neg (by decide)]
    cases h2 : isWord c
    · exact ⟨_, rfl⟩
    · exact ⟨_, rfl⟩
  · rw [if_pos rfl]
    exact ⟨_, rfl⟩
theorem admitted_spec (m : Sre.M) (hcode : m.code = srCode) (hlim : m.lim = m.text.size) : ∀ (fuel s : Nat) (seen : Sre.Seen), m.lim + 1 - s ≤ fuel →
    (∃ seen', m.admitted fuel s seen = .ok (none, seen') ∧ ∀ i, s ≤ i → i < m.text.size → safeC (m.text.getD i 0) = true) ∨
    (∃ k seen', m.admitted fuel s seen = .ok (some k, seen') ∧ k < m.text.size ∧ safeC (m.text.getD k 0) = false)
  | 0, s, seen, h => .inl ⟨seen, rfl, fun i h1 h2 => by omega⟩
  | fuel + 1, s, seen, h => by
    unfold Sre.M.admitted
    by_cases hs : s ≥ m.lim
    · rw [if_pos hs]
      exact .inl ⟨seen, rfl, fun i h1 h2 => by omega⟩
    · rw [if_neg hs, hcode]
      obtain ⟨seen', e⟩ := inSet5 (m.text.getD s 0) seen
      rw [e]
      cases hc : safeC (m.text.getD s 0)
      · exact .inr ⟨s, seen', rfl, by omega, hc⟩
      · show (∃ s', m.admitted fuel (s + 1) seen' = _ ∧ _) ∨ _
        rcases admitted_spec m hcode hlim fuel (s + 1) seen' (by omega) with ⟨a, b, c⟩ | ⟨k, a, b, c, d⟩
        · refine .inl ⟨a, b, fun i h1 h2 => ?_⟩
          by_cases hi : i = s
          · rw [hi]; exact hc
          · exact c i (by omega) h2
        · exact .inr ⟨k, a, b, c, d⟩
end
section
open PySem.Sre
def srM (text : Array Nat) : Sre.M := { code := srCode, text, lim := text.size, start := 0, lastStart := text.size, pc := 18, pos := 0, handed := 0, marks := #[], mustAdvance := false, seen := ({} : Sre.Seen).add 14 }
theorem forSearch_eq {text : Array Nat} (h : text.size > 0) : forSearch srCode text 0 0 text.size false = (srM text).attemptFrom 0 true := by
  unfold forSearch
  have hl : (header srCode).1 = 1 := rfl
  have h1 : ¬ ((decide (0 > text.size) || decide (text.size - 0 < (header srCode).1)) = true) := by
    rw [hl, decide_eq_false (by omega), decide_eq_false (by omega)]
    decide
  simp only [h1, if_false]
  rfl
def srF (text : Array Nat) (k : Nat) (seen : Sre.Seen) : Sre.M := { code := srCode, text, lim := text.size, start := k, lastStart := text.size, pc := 18, pos := k, handed := k, outermost := true, marks := #[], mustAdvance := false, frames := [{ wait := .nextStart, pc := 18, pos := k, outermost := true }], weight := 1, seen }
theorem srF_step {text : Array Nat} {k : Nat} {seen : Sre.Seen} (hk : k < text.size) (hc : safeC (text.getD k 0) = false) : ∃ seen', (srF text k seen).step = { srF text k seen' with pc := 33, pos := k + 1 } := by
  obtain ⟨seen', e⟩ := inSet20 (text.getD k 0) (seen.add 13)
  rw [hc] at e
  refine ⟨seen', ?_⟩
  have e1 : (srF text k seen).step = (if k ≥ text.size then ({ srF text k (seen.add 13) with } : Sre.M).say false else
      match accepts srCode 18 (text.getD k 0) (seen.add 13) with
      | .error why => ({ srF text k (seen.add 13) with } : Sre.M).stick why
      | .ok (false, seen) => { srF text k seen with }.say false
      | .ok (true, seen) => { srF text k seen with pc := 18 + itemWidth srCode 18, pos := k + 1 }) := rfl
  rw [e1, if_neg (by omega)]
  have e2 : accepts srCode 18 (text.getD k 0) (seen.add 13) = inSet srCode (text.getD k 0) srCode.size 20 true (seen.add 13) := rfl
  rw [e2, e]
  rfl
theorem srF_run {text : Array Nat} {k : Nat} {seen : Sre.Seen} (hk : k < text.size) (hc : safeC (text.getD k 0) = false) : ∃ m', (srF text k seen).runFor 4 = m' ∧ m'.outcome = some .matched ∧ m'.lastmark = -1 ∧ m'.lastindex = -1 := by
  obtain ⟨seen', e⟩ := srF_step (seen := seen) hk hc
  refine ⟨_, rfl, ?_⟩
  have e1 : (srF text k seen).runFor 4 = ((srF text k seen).step).runFor 3 := rfl
  rw [e1, e]
  exact ⟨rfl, rfl, rfl⟩
theorem search_run {text : Array Nat} (h : text.size > 0) : ∃ m', (forSearch srCode text 0 0 text.size false).runFor 4 = m' ∧ m'.lastmark = -1 ∧ m'.lastindex = -1 ∧
    ((m'.outcome = some .failed ∧ ∀ i, i < text.size → safeC (text.getD i 0) = true) ∨ (m'.outcome = some .matched ∧ ∃ k, k < text.size ∧ safeC (text.getD k 0) = false)) := by
  rw [forSearch_eq h]
  unfold Sre.M.attemptFrom
  have hf : (!(srM text).hasFirstSet) = false := rfl
  rw [hf, if_neg (by decide)]
  rcases admitted_spec (srM text) rfl rfl ((srM text).lim + 1 - 0) 0 (srM text).seen (Nat.le_refl _) with ⟨seen', e, a⟩ | ⟨k, seen', e, hk, hc⟩
  · rw [e]
    exact ⟨_, rfl, rfl, rfl, .inl ⟨rfl, fun i hi => a i (Nat.zero_le _) hi⟩⟩
  · rw [e]
    obtain ⟨m', e1, e2, e3, e4⟩ := srF_run (seen := seen') hk hc
    exact ⟨m', e1, e3, e4, .inr ⟨e2, k, hk, hc⟩⟩
end
section
open PySem.Builtin.Re
variable {prog : Program} {w : World} {A : Around} {R : Result → Shared → Prop} {E : Value → Shared → Prop} {s : Shared} {h₀ : Heap} {L : Addr} {m : Str → Option Value} {news : List (Addr × Obj)}
theorem drive_eq {M₀ M₁ : Sre.M} (e : M₀.runFor 4 = M₁) (h : M₁.outcome.isSome = true) : reDrive (2 ^ 64) M₀ = pure M₁ := by
  have h64 : (2 : Nat) ^ 64 = 18446744073709551615 + 1 := by decide
  rw [h64, reDrive]
  show (if (M₀.runFor 4).outcome.isSome = true then pure (M₀.runFor 4) else _) = _
  rw [e, if_pos h]
theorem for_rules {b : Nat → Bool} {f : Nat → String} {Q : PUnit → Shared → Prop} (h : Q PUnit.unit s) : ∀ l : List Nat,
    wpAny (model prog w) A (forIn l PUnit.unit (fun i _ => if b i = true then (rule (f i) >>= fun _ => pure (ForInStep.yield PUnit.unit)) else pure (ForInStep.yield PUnit.unit))) Q E s
  | [] => wpAny_pure h
  | i :: l => by
    rw [List.forIn_cons]
    refine wpAny_bind ?_
    cases b i
    · rw [if_neg (by decide)]
      exact wpAny_pure (for_rules h l)
    · rw [if_pos rfl]
      exact wpAny_bind (wpAny_rule (wpAny_pure (for_rules h l)))
theorem run_end {M₀ M₁ : Sre.M} {Q : Option Sre.M → Shared → Prop} (e : M₀.runFor 4 = M₁)
    (h : (M₁.outcome = some .matched ∧ Q (some M₁) s) ∨ (M₁.outcome = some .failed ∧ Q none s)) : wpAny (model prog w) A (reRunToEnd M₀) Q E s := by
  unfold reRunToEnd
  have hs : M₁.outcome.isSome = true := by rcases h with h | h <;> rw [h.1] <;> rfl
  rw [drive_eq e hs]
  refine wpAny_bind (wpAny_pure (M := model prog w) ?_)
  refine wpAny_bind ?_
  refine for_rules (b := fun i => M₁.seen.has i) (f := fun i => Sre.names.getD i "") ?_ _
  rcases h with ⟨h1, h2⟩ | ⟨h1, h2⟩
  · rw [h1]
    exact wpAny_pure h2
  · rw [h1]
    exact wpAny_pure h2
theorem entry_search : entryFor table "re.Pattern.search" = some Builtin.«re.Pattern.search» := entryFor_of_fast (by kernel_rfl)
theorem plain_search : plainId "re.Pattern.search" = true := by decide +kernel
theorem search_code {x : Str} {t : Tok} {Q : Value → Shared → Prop} (F : Fr h₀ L s.heap m) (N : News h₀ L s.heap news) (X : (hd.heap_39 w.params).In h₀) (hx : x.length > 0) (hb : x.length ≤ 100000)
    (h1 : (∀ c ∈ x.cps.toList, safeC c = true) → Q .none s)
    (h2 : (¬ ∀ c ∈ x.cps.toList, safeC c = true) → ∀ (a : Addr) h', Fr h₀ L h' m → News h₀ L h' news → Q (.ref a) { s with heap := h' }) :
    codeAny (model PySem.Challenge.rw_il0144_01.row.prog w) A (.builtin "re.Pattern.search" ⟨[.ref 56, .str x t], []⟩) (wants Q E) s := by
  have X1 := X.keeps F.keep
  have hsz : x.cps.size > 0 := hx
  have htg : Looks (model PySem.Challenge.rw_il0144_01.row.prog w) s.heap (reTarget "re.Pattern.search" "search" ⟨[.ref 56, .str x t], []⟩) { pattern := .ref 56, string := .str x t, code := srCode, text := x.cps, kind := 0, groups := 0, pos := min (0 : Int).toNat x.cps.size, lim := min (2 ^ 63 - 1 : Int).toNat x.cps.size } := Looks.of_peek X1 (by kernel_rfl)
  have hp0 : min (0 : Int).toNat x.cps.size = 0 := Nat.zero_min _
  have hl0 : min (2 ^ 63 - 1 : Int).toNat x.cps.size = x.cps.size := Nat.min_eq_right (by
    have e : (2 ^ 63 - 1 : Int).toNat = 9223372036854775807 := by decide
    have hb' : x.cps.size ≤ 100000 := hb
    rw [e]
    omega)
  rw [hp0, hl0] at htg
  refine codeAny_builtin entry_search ?_
  rw [Around.under_plainId plain_search _]
  unfold Builtin.«re.Pattern.search»
  refine wpAny_bind (htg.here ?_)
  unfold reAnswer
  obtain ⟨m', e, lm, li, hc⟩ := search_run hsz
  refine wpAny_bind (run_end e ?_)
  rcases hc with ⟨ho, hall⟩ | ⟨ho, k, hk, hu⟩
  · refine .inr ⟨ho, wpAny_pure (h1 fun c hm => ?_)⟩
    obtain ⟨i, hi, rfl⟩ := List.mem_iff_getElem.mp hm
    have hi' : i < x.cps.size := by simpa using hi
    have := hall i hi'
    rw [Array.getD_eq_getD_getElem?, Array.getElem?_eq_getElem hi'] at this
    simpa using this
  · refine .inl ⟨ho, ?_⟩
    have hno : ¬ ∀ c ∈ x.cps.toList, safeC c = true := fun hall => by
      have hm := hall (x.cps.getD k 0) (by
        rw [Array.getD_eq_getD_getElem?, Array.getElem?_eq_getElem hk]
        exact Array.getElem_mem_toList hk)
      rw [hu] at hm
      cases hm
    unfold reNewMatch
    show wpAny _ _ ((newTuple (rawInt m'.start :: rawInt m'.handed :: []) >>= fun tp => newFields "re.Match" [.str x t, .ref 56, rawInt 0, rawInt x.cps.size, rawInt m'.lastindex, tp]) >>= fun v => ret v) _ _ _
    refine wpAny_bind (wpAny_bind (wpAny_newObj_type ?_))
    refine wpAny_newObj_type ?_
    exact wpAny_pure (M := model PySem.Challenge.rw_il0144_01.row.prog w) (h2 hno _ _ ((F.push _).push _) ((N.pushKeep _).pushKeep _))
abbrev o759 : Obj := { cls := .type "builtin_function_or_method", data := .fields #[.builtin "re.Pattern.search", .ref 56] }
theorem call_759 {x : Str} {t : Tok} {Q : Value → Shared → Prop} (F : Fr h₀ L s.heap m) (N : News h₀ L s.heap news) (X : (hd.heap_39 w.params).In h₀) (hx : x.length > 0) (hb : x.length ≤ 100000)
    (h1 : (∀ c ∈ x.cps.toList, safeC c = true) → Q .none s)
    (h2 : (¬ ∀ c ∈ x.cps.toList, safeC c = true) → ∀ (a : Addr) h', Fr h₀ L h' m → News h₀ L h' news → Q (.ref a) { s with heap := h' }) :
    wpAny (model PySem.Challenge.rw_il0144_01.row.prog w) A (call (.ref 759) [.str x t]) Q E s := by
  have X1 := X.keeps F.keep
  have ho : s.heap.get? 759 = some o759 := X1 759 o759 rfl
  have hchk : Looks (model PySem.Challenge.rw_il0144_01.row.prog w) s.heap (checkBoundCall "re.Pattern.search" ⟨[.ref 56, .str x t], []⟩) () := Looks.of_peek X1 (by kernel_rfl)
  refine wpAny_call (codeAny_of_tree ?_)
  show wpAny _ _ (callAny (.ref 759) _) _ _ _
  refine nd_load ho ?_
  show wpAny _ _ (checkBoundCall "re.Pattern.search" ⟨[.ref 56, .str x t], []⟩ >>= fun _ => again (.builtin "re.Pattern.search" ⟨[.ref 56, .str x t], []⟩)) _ _ _
  refine wpAny_bind (hchk.here ?_)
  exact wpAny_pure ⟨plainId_quiet plain_search _, search_code F N X hx hb h1 h2⟩
theorem callWith_759 {pos : Pos} {env : Env} {e : Expr} {Q : Value → Shared → Prop}
    (h : wpAny (model prog w) A (spliced (backTo pos (starEach [e] env))) (fun vs s₁ => s₁.heap.get? 759 = some o759 ∧ wpAny (model prog w) A (call (.ref 759) ([] ++ vs)) Q E s₁) E s)
    (he : starEach [e] env = [(false, eval e env)] := by rfl) : wpAny (model prog w) A (callWith pos (.ref 759) [] (backTo pos (starEach [e] env)) []) Q E s := by
  have hplain : (backTo pos (starEach [e] env)).any (·.1) = false := by rw [he]; rfl
  have hev : wpAny (model prog w) A (evalArgs (.ref 759) true (backTo pos (starEach [e] env)) []) (fun x s₁ => s₁.heap.get? 759 = some o759 ∧ wpAny (model prog w) A (call (.ref 759) ([] ++ x.pos) x.kw) Q E s₁) E s := by
    rw [he] at h ⊢
    exact evalArgs_plain h
  unfold callWith
  refine wpAny_bind (wpAny_holding (wpAny_mono hev (fun x s₁ h₁ => wpAny_bind (wpAny_standAt ?_)) fun _ _ x => x))
  obtain ⟨ho, hcall⟩ := h₁
  simp only [hplain, List.any_nil, Bool.or_false]
  refine wpAny_bind (m := keeperOf (.ref 759)) ?_
  unfold keeperOf
  refine wpAny_bind (wpAny_load ho ?_)
  simp only [o759, show (Value.type "builtin_function_or_method" != Value.type "method") = true by decide, show (Value.type "builtin_function_or_method" == Value.type "builtin_function_or_method" || Value.type "builtin_function_or_method" == Value.type "method-wrapper") = true by decide, if_true]
  refine wpAny_pure ?_
  exact wpAny_bind (wpAny_mono hcall (fun r s₂ hr => wpAny_bind (wpAny_holding (wpAny_point (wpAny_pure hr)))) fun _ _ x => x)
end
section
variable {prog : Program} {w : World} {A : Around} {s : Shared} {K : Frag} {p : Program} {loose : List Str} {mean : ExcName → Option Value} {mg mb : Str → Option Value}
    {R : Result → Shared → Prop} {name qual : Str} {params : Arguments} {body : List Stmt} {scope : Scope} {dV kV doc pm cdv ct oc : Value} {an od : Option Addr} {osl : Array (Option Value)} {f : Addr} {args : Args} {binds : List (Str × Value)}
/-- leaving a def that was entered with nothing known of the frames -/
def LeaveF (g : Heap) (R : Result → Shared → Prop) (v : Value) (s' : Shared) : Prop := ∃ L' m', Fr g L' s'.heap m' ∧ (g.StaysIn s'.heap → R (.ok (.ret v)) s')
theorem leaveF_ {g : Heap} {R : Result → Shared → Prop} {v : Value} {s' : Shared} {L' : Addr} {m' : Str → Option Value} (F : Fr g L' s'.heap m') (k : g.StaysIn s'.heap → R (.ok (.ret v)) s') : LeaveF g R v s' := ⟨L', m', F, k⟩
theorem code_free (X₀ : K.In s.heap) (T : Top p loose mean mg mb s.heap)
    (ho : K.lookup f = some ⟨oc, od, .func (fnOf name qual params body scope dV kV doc pm an cdv ct), osl⟩) (hcd : codeIn K cdv qual = true) (hroom : A.depth < recursionLimit)
    (hbind : BindsTo s (fnOf name qual params body scope dV kV doc pm an cdv ct) args binds) (hloc : ∀ y ∈ binds, scope.names.lookup y.1 = some .local)
    (h : ∀ L' h₁, Fr s.heap L' h₁ (fun y => binds.reverse.lookup y) → News s.heap L' h₁ [] → K.In s.heap → Top p loose mean mg mb s.heap →
      wpAny (model prog w) (A.deeper (envOf qual scope L' f cdv)) (execs body (envOf qual scope L' f cdv))
        (fun fl s' => LeaveF s.heap R (match fl with | .ret v => v | _ => .none) s')
        (fun e s' => wpAny (model prog w) (A.deeper (envOf qual scope L' f cdv)) (leaving (envOf qual scope L' f cdv) e) (fun _ s'' => R (.error e) s'') (fun e' s'' => R (.error e') s'') s')
        { s with heap := h₁, toks := s.toks + binds.length })
    (hco : scope.isCoroutine = false) (hgen : scope.isGenerator = false) (hk : scope.kind = .function)
    (hcell : ∀ x ∈ scope.names, x.2 ≠ .cell) : codeAny (model prog w) A (.call (.ref f) args) R s := by
  refine codeAny_call_def (fd := fnOf name qual params body scope dV kV doc pm an cdv ct) (body := body) (binds := binds) hroom (X₀ _ _ ho) rfl T.nolimit (codeRec_of X₀ hcd) rfl hbind hcell hloc (fun h₁ hns hk₁ => ?_) hco hgen hk
  refine wpAny_mono (h _ h₁ ⟨hns, hk₁, Nat.le_refl _⟩ (fun q hq => nomatch hq) X₀ T) (fun fl s' hl => ?_) fun _ _ y => y
  obtain ⟨L', m', F', k⟩ := hl
  exact k F'.keep
end
local macro_rules | `(tactic| walk_at "callWith ref") => `(tactic| (k_here; (with_reducible show wpAny _ _ (callWith _ (Value.ref 759) [] (backTo _ (starEach [_] _)) []) _ _ _); k_dflt (refine callWith_759 ?_)))
local macro_rules | `(tactic| walk_at "And") => `(tactic| (k_here; (with_reducible show (_ = some o759) ∧ _); k_dflt (refine' And.intro ?h ?_; (case h => exact (Frag.In.keeps (by assumption) (Fr.keep (by assumption))) 759 o759 rfl)); (try simp only [List.nil_append])))
local macro_rules | `(tactic| walk_at "call ref") => `(tactic| (k_here; (with_reducible show wpAny _ _ (call (Value.ref 759) [Value.str _ _]) _ _ _); k_dflt (first
 | (refine' call_759 ?kF ?kN ?kX ?hx ?hb ?_ ?h2; (case kF => k_asm); (case kN => k_asm); (case kX => k_asm); (case hx => assumption); (case hb => assumption); (case h2 => exact fun hn => absurd (by assumption) hn); intro hall9; (try dsimp only))
 | (refine' call_759 ?kF ?kN ?kX ?hx ?hb ?h1 ?_; (case kF => k_asm); (case kN => k_asm); (case kX => k_asm); (case hx => assumption); (case hb => assumption); (case h1 => exact fun hn => absurd hn (by assumption)); intro hn9 a9 h9 F9 N9; (try dsimp only)))))
local macro_rules | `(tactic| walk_at "binaryOp Add str str") => `(tactic| ((with_reducible show wpAny _ _ (binaryOp Operator.Add (Value.str _ _) (Value.str _ _)) _ _ _); (refine' KXadd.add (K := 1000000) (L := 1000000) ?a ?b (by decide) ?_; (case a => with_reducible assumption); (case b => with_reducible assumption)); intro t9 k9 _))
local macro_rules | `(tactic| walk_at "my enterF") => `(tactic| k_dflt (refine' code_free ?k3 ?k5 ?k6 ?k7 ?k8 ?k9 ?kB ?_ ?c2 ?c3 ?c4 ?c5; (case k3 => assumption); (case k5 => assumption); (case k6 => k_is); (case k7 => k_is); (case k8 => k_room); (case k9 => first | exact BindsTo.of_eq rfl | exact binds_K (by k_in) rfl (by k_is) rfl rfl rfl); (case c5 => decide); (case kB => exact locs rfl); (case c2 => exact rfl); (case c3 => exact rfl); (case c4 => exact rfl); k_whole; intro L' h' F' N' X' T'; (try dsimp only); (try k_fold)))
local macro_rules | `(tactic| walk_at "LeaveF") => `(tactic| (k_dflt (refine' leaveF_ ?F ?_; (case F => k_asm)); intro hkp9; (try dsimp only)))
/-- what quote makes of a text -/
def quoT (x : Str) : Str := Str.ofString "'" ++ Txt.replace x (Str.ofString "'") (Str.ofString "'\"'\"'") ++ Str.ofString "'"
/-- what quote gives -/
def quo (x : Str) : Str := if x = Str.ofString "" then Str.ofString "''" else if ∀ c ∈ x.cps.toList, safeC c = true then x else quoT x
section
variable {w : World} {p0 : Program} {lo0 : List Str} {mean : ExcName → Option Value} {mg mb : Str → Option Value} {A : Around} {s : Shared} {E : Value → Shared → Prop}
  {x : Str} {tl : Tok} {Q : Value → Shared → Prop}
theorem quoF_safe (X : (hd.heap_39 w.params).In s.heap) (T : Top p0 lo0 mean mg mb s.heap) (hh : A.handled = none) (hdp : A.depth + 20 < recursionLimit) (hun : A.units + 100 < cLine) (hx : x.length > 0) (hb : x.length ≤ 100000)
  (hall : ∀ c ∈ x.cps.toList, safeC c = true)
  (hret : ∀ s' t', Keeps s s' → Q (.str x t') s') :
  wpAny (model PySem.Challenge.rw_il0144_01.row.prog w) A (call (.ref 766) [.str x tl]) Q E s := by
  revert X; k_fill; intro X
  refine wpAny_call ?_
  walk_at "my enterF"
  k_steps
  exact hret _ _ ⟨_, _, rfl, by assumption⟩
theorem quoF_unsafe (X : (hd.heap_39 w.params).In s.heap) (T : Top p0 lo0 mean mg mb s.heap) (hh : A.handled = none) (hdp : A.depth + 20 < recursionLimit) (hun : A.units + 100 < cLine) (hx : x.length > 0) (hb : x.length ≤ 100000)
  (hall : ¬ ∀ c ∈ x.cps.toList, safeC c = true)
  (hr1 : (Txt.replace x (Str.ofString "'") (Str.ofString "'\"'\"'")).length ≤ 1000000) (hr2 : (Str.ofString "'" ++ Txt.replace x (Str.ofString "'") (Str.ofString "'\"'\"'")).length ≤ 1000000)
  (hret : ∀ s' t', Keeps s s' → Q (.str (quoT x) t') s') :
  wpAny (model PySem.Challenge.rw_il0144_01.row.prog w) A (call (.ref 766) [.str x tl]) Q E s := by
  revert X; k_fill; intro X
  have hr3 : (Str.ofString "'").length ≤ 1000000 := by decide +kernel
  refine wpAny_call ?_
  walk_at "my enterF"
  k_steps
  exact hret _ _ ⟨_, _, rfl, by assumption⟩
theorem quoF_empty (X : (hd.heap_39 w.params).In s.heap) (T : Top p0 lo0 mean mg mb s.heap) (hh : A.handled = none) (hdp : A.depth + 20 < recursionLimit) (hun : A.units + 100 < cLine)
  (hret : ∀ s' t', Keeps s s' → Q (.str (Str.ofString "''") t') s') :
  wpAny (model PySem.Challenge.rw_il0144_01.row.prog w) A (call (.ref 766) [.str (Str.ofString "") tl]) Q E s := by
  revert X; k_fill; intro X
  refine wpAny_call ?_
  walk_at "my enterF"
  k_steps
  exact hret _ _ ⟨_, _, rfl, by assumption⟩
theorem len_pos {x : Str} (h : x ≠ Str.ofString "") : x.length > 0 := by
  rcases Nat.eq_zero_or_pos x.length with h0 | h0
  · refine absurd (PySem.Str.ext' ?_) h
    have h1 : x.cps = #[] := Array.eq_empty_of_size_eq_zero h0
    rw [h1]
    decide +kernel
  · exact h0
theorem quoF (X : (hd.heap_39 w.params).In s.heap) (T : Top p0 lo0 mean mg mb s.heap) (hh : A.handled = none) (hdp : A.depth + 20 < recursionLimit) (hun : A.units + 100 < cLine) (hb : x.length ≤ 100000)
  (hr1 : (Txt.replace x (Str.ofString "'") (Str.ofString "'\"'\"'")).length ≤ 900000)
  (hret : ∀ s' t', Keeps s s' → Q (.str (quo x) t') s') :
  wpAny (model PySem.Challenge.rw_il0144_01.row.prog w) A (call (.ref 766) [.str x tl]) Q E s := by
  unfold quo at hret
  by_cases h0 : x = Str.ofString ""
  · subst h0
    rw [if_pos rfl] at hret
    exact quoF_empty X T hh hdp hun hret
  · rw [if_neg h0] at hret
    by_cases hall : ∀ c ∈ x.cps.toList, safeC c = true
    · rw [if_pos hall] at hret
      exact quoF_safe X T hh hdp hun (len_pos h0) hb hall hret
    · rw [if_neg hall] at hret
      refine quoF_unsafe X T hh hdp hun (len_pos h0) hb hall (by omega) ?_ hret
      rw [PySem.Str.length_append]
      have : (Str.ofString "'").length = 1 := by decide +kernel
      omega
end
section
variable {prog : Program} {w : World} {A : Around} {s : Shared} {K : Frag} {p : Program} {loose : List Str} {mean : ExcName → Option Value} {mg mb : Str → Option Value}
    {R : Result → Shared → Prop} {name qual : Str} {params : Arguments} {body : List Stmt} {scope : Scope} {dV kV doc pm cdv ct oc : Value} {an od : Option Addr} {osl : Array (Option Value)} {f : Addr} {args : Args} {binds : List (Str × Value)}
theorem code_any (X₀ : K.In s.heap) (T : Top p loose mean mg mb s.heap)
    (ho : K.lookup f = some ⟨oc, od, .func (fnOf name qual params body scope dV kV doc pm an cdv ct), osl⟩) (hcd : codeIn K cdv qual = true) (hroom : A.depth < recursionLimit)
    (hbind : BindsTo s (fnOf name qual params body scope dV kV doc pm an cdv ct) args binds) (hloc : ∀ y ∈ binds, scope.names.lookup y.1 = some .local)
    (h : ∀ L' h₁, Fr s.heap L' h₁ (fun y => binds.reverse.lookup y) → News s.heap L' h₁ [] → K.In s.heap → Top p loose mean mg mb s.heap →
      wpAny (model prog w) (A.deeper (envOf qual scope L' f cdv)) (execs body (envOf qual scope L' f cdv))
        (fun fl s' => R (.ok (.ret (match fl with | .ret v => v | _ => .none))) s')
        (fun e s' => wpAny (model prog w) (A.deeper (envOf qual scope L' f cdv)) (leaving (envOf qual scope L' f cdv) e) (fun _ s'' => R (.error e) s'') (fun e' s'' => R (.error e') s'') s')
        { s with heap := h₁, toks := s.toks + binds.length })
    (hco : scope.isCoroutine = false) (hgen : scope.isGenerator = false) (hk : scope.kind = .function)
    (hcell : ∀ x ∈ scope.names, x.2 ≠ .cell) : codeAny (model prog w) A (.call (.ref f) args) R s := by
  refine codeAny_call_def (fd := fnOf name qual params body scope dV kV doc pm an cdv ct) (body := body) (binds := binds) hroom (X₀ _ _ ho) rfl T.nolimit (codeRec_of X₀ hcd) rfl hbind hcell hloc (fun h₁ hns hk₁ => ?_) hco hgen hk
  exact wpAny_mono (h _ h₁ ⟨hns, hk₁, Nat.le_refl _⟩ (fun q hq => nomatch hq) X₀ T) (fun fl s' hl => hl) fun _ _ y => y
end
theorem regrown_mono {h₀ h : Heap} {P : Addr} {ps : Array Value} {o₀ : Obj} (hk : ∀ b o, h₀.get? b = some o → h.get? b = some o) (hp : h₀.get? P = some o₀) : ∀ b o, (PyProof.Rows.regrown h₀ P ps).get? b = some o → (PyProof.Rows.regrown h P ps).get? b = some o := by
  intro b o e
  by_cases hb : b = P
  · subst hb
    have e1 := Heap.get?_update_self (fun _ => ({ cls := .none, data := .fields ps } : Obj)) hp rfl
    have e2 := Heap.get?_update_self (fun _ => ({ cls := .none, data := .fields ps } : Obj)) (hk _ _ hp) rfl
    have e3 : some ({ cls := .none, data := .fields ps } : Obj) = some o := e1.symm.trans e
    exact e2.trans e3
  · have e1 : h₀.get? b = some o := (Heap.get?_update_other _ _ (Ne.symm hb)).symm.trans e
    exact (Heap.get?_update_other _ _ (Ne.symm hb)).trans (hk _ _ e1)
theorem regrown_size (h : Heap) (P : Addr) (ps : Array Value) : (PyProof.Rows.regrown h P ps).objs.size = h.objs.size := Heap.size_after_update ..
theorem regrown_other {h : Heap} {P : Addr} {ps : Array Value} {b : Addr} (hb : b ≠ P) : (PyProof.Rows.regrown h P ps).get? b = h.get? b := Heap.get?_update_other _ _ (Ne.symm hb)
theorem keeps_refl (s : Shared) : Keeps s s := ⟨s.heap, s.toks, rfl, fun _ _ e => e⟩
/-- what a table's growth leaves of a frame and a ledger -/
theorem regrown_after {h₀ h h' : Heap} {L P : Addr} {ps : Array Value} {o₀ : Obj} {m : Str → Option Value} {news : List (Addr × Obj)} (F : Fr h₀ L h m) (N : News h₀ L h news) (hp : h₀.get? P = some o₀)
    (hk : ∀ b o, (PyProof.Rows.regrown h P ps).get? b = some o → h'.get? b = some o) : Fr (PyProof.Rows.regrown h₀ P ps) L h' m ∧ News (PyProof.Rows.regrown h₀ P ps) L h' news := by
  have hLP : L ≠ P := fun e => Nat.lt_irrefl _ (Nat.lt_of_lt_of_le (Heap.lt_size hp) (e ▸ F.above))
  refine ⟨⟨?_, fun b o e => hk b o (regrown_mono F.keep hp b o e), ?_⟩, fun q hq => ?_⟩
  · obtain ⟨oL, es, ep, ho, hd, r⟩ := F.ns
    exact ⟨oL, es, ep, hk _ _ ((regrown_other hLP).trans ho), hd, r⟩
  · rw [regrown_size]
    exact F.above
  · have hqP : q.1 ≠ P := fun e => by
      have := (N q hq).2.2
      rw [e, hp] at this
      cases this
    exact ⟨hk _ _ ((regrown_other hqP).trans (N q hq).1), (N q hq).2.1, (regrown_other hqP).trans (N q hq).2.2⟩
local macro_rules | `(tactic| walk_at "my enterA") => `(tactic| k_dflt (refine' code_any ?k3 ?k5 ?k6 ?k7 ?k8 ?k9 ?kB ?_ ?c2 ?c3 ?c4 ?c5; (case k3 => assumption); (case k5 => assumption); (case k6 => k_is); (case k7 => k_is); (case k8 => k_room); (case k9 => first | exact BindsTo.of_eq rfl | exact binds_K (by k_in) rfl (by k_is) rfl rfl rfl); (case c5 => decide); (case kB => exact locs rfl); (case c2 => exact rfl); (case c3 => exact rfl); (case c4 => exact rfl); k_whole; intro L' h' F' N' X' T'; (try dsimp only); (try k_fold)))
local macro_rules | `(tactic| walk_at "eval Name") => `(tactic| ((with_reducible show wpAny _ _ (eval (Expr.Name _ _) (genEnv _ _ _ _ _ _)) _ _ _); k_dflt (first
 | (refine' ldVarG ?F ?v ?_ ?k4 ?k5 ?k6; (case k4 => rfl); (case k5 => rfl); (case k6 => decide); (case F => assumption); (case v => assumption))
 | (refine' nameG_K ?F ?X ?T ?e ?_ ?k4 ?k5 ?k6 ?k7; (case k4 => rfl); (case k5 => rfl); (case k6 => rfl); (case k7 => decide); (case F => assumption); (case X => assumption); (case T => exact topRead_of (by assumption)); (case e => k_is)))))
section
variable {w : World} {p0 : Program} {lo0 : List Str} {mean : ExcName → Option Value} {mg mb : Str → Option Value} {A : Around} {s : Shared} {E : Value → Shared → Prop} {h₀ : Heap} {L : Addr} {m : Str → Option Value} {news : List (Addr × Obj)}
  {Q : Value → Shared → Prop} {P bm l : Addr} {ob : Obj} {vs : List Value} {words : List Str}
set_option maxHeartbeats 600000 in
theorem join_spec (F : Fr h₀ L s.heap m) (N : News h₀ L s.heap news) (X : (hd.heap_39 w.params).In h₀) (T : Top p0 lo0 mean mg mb h₀) (TR : ∀ ps, Top p0 lo0 mean mg mb (PyProof.Rows.regrown h₀ P ps)) (hh : A.handled = none) (hdp : A.depth + 60 < recursionLimit) (hun : A.units + 300 < cLine)
  (hC : h₀.IsCode 757 P #[]) (hT : h₀.TableAt 757 P #[]) (hP : P ≠ cStatics) (M : BMod h₀ mainGlobals mg bm ob) (G : AllBare s.gens) (hl : s.heap.IsList l vs.toArray) (hv : StrsAre vs words)
  (hlen : words.length ≤ 1000) (hw1 : ∀ x ∈ words, x.length ≤ 100000) (hw2 : ∀ x ∈ words, (Txt.replace x (Str.ofString "'") (Str.ofString "'\"'\"'")).length ≤ 900000) (hok : JoinOk (Str.ofString " ") (words.map quo) = true)
  (hret : ∀ s' t ps, AllBare s'.gens → s'.os = s.os → (hd.heap_39 w.params).In (PyProof.Rows.regrown h₀ P ps) → Top p0 lo0 mean mg mb (PyProof.Rows.regrown h₀ P ps) → Fr (PyProof.Rows.regrown h₀ P ps) L s'.heap m → News (PyProof.Rows.regrown h₀ P ps) L s'.heap news → Q (.str (Txt.join (Str.ofString " ") (words.map quo)) t) s') :
  wpAny (model PySem.Challenge.rw_il0144_01.row.prog w) A (call (.ref 758) [.ref l]) Q E s := by
  revert X; k_fill; intro X
  have X1 := X.keeps F.keep
  have T1 := T.keeps F.keep
  obtain ⟨oP, hpo⟩ : ∃ oP, h₀.get? P = some oP := ⟨_, hT.2⟩
  have hB0 : Based h₀ h₀ 757 P #[] := Based.start hC hT hP
  have XR : ∀ ps, (hd.heap_39 w.params).In (PyProof.Rows.regrown h₀ P ps) := fun ps => kb_in_regrown hB0 X T.g (by kernel_rfl)
  have XR1 : ∀ ps, (hd.heap_39 w.params).In (PyProof.Rows.regrown s.heap P ps) := fun ps => (XR ps).keeps (regrown_mono F.keep hpo)
  have TR1 : ∀ ps, Top p0 lo0 mean mg mb (PyProof.Rows.regrown s.heap P ps) := fun ps => (TR ps).keeps (regrown_mono F.keep hpo)
  clear X T
  refine wpAny_call ?_
  walk_at "my enterA"
  k_steps
  rename_i L9 h9 F9 N9 X9 T9
  have B9 : Based s.heap s.heap 757 P #[] := Based.start (hC.keeps F.keep) (hT.keeps F.keep) hP
  have hnl : h9.NoLimit := T1.nolimit.keeps F9.keep
  obtain ⟨mm, hmm⟩ : ∃ mm, mm = _ ∧ Fr s.heap L9 h9 mm := ⟨_, rfl, F9⟩
  refine' GeneratorExp_strsF (m := mm) (pz := fun _ => true) (d := fun x => .str (quo x)) (h₀ := s.heap) (h₁ := s.heap) (c := 757) (P := P) (ps := #[]) (L := L9) B9 (M.keeps F.keep) ?a1 ?a2 ?a3 ?a4 ?a5 ?a6 ?a7 ?a8 ?a9 ?a10 ?_ ?a11
  case a1 => rfl
  case a2 => rfl
  case a3 => exact hh
  case a4 => rfl
  case a5 => rfl
  case a6 => decide
  case a7 => rfl
  case a8 => rfl
  case a9 => rfl
  case a10 => rw [depth_deeper]; omega
  case a11 => exact fun _ => rfl
  walk1
  refine ⟨l, vs, words, L9, rfl, ?_, hv, hmm.2, G, hnl, Nat.le_refl _, F9.ns.lt, ?_, ?_, ?_⟩
  · obtain ⟨o, ho, r⟩ := hl
    exact ⟨o, F9.keep _ _ ho, r⟩
  · intro c' C A' E' a t u m₂ hA hD hU ha hF hm hLC hk
    exact wpAny_pure ⟨rfl, keeps_refl u⟩
  · intro c' C A' E' a t u m₂ hA hD hU ha _ hF hm hLC hk
    have Xg := XR1 (#[] ++ #[rawInt (744 : Nat), rawInt (20 : Nat), .ref c'])
    have Tg := TR1 (#[] ++ #[rawInt (744 : Nat), rawInt (20 : Nat), .ref c'])
    walk1
    walk1
    walk1
    walk1
    walk1
    walk1
    have hD' : A'.depth ≤ A.depth + 1 + 1 := hD
    have hU' : A'.units ≤ A.units + 3 + 8 := hU
    exact ⟨Xg.keeps hF.keep, quoF (Xg.keeps hF.keep) (Tg.keeps hF.keep) hA (by omega) (by omega) (hw1 a ha) (hw2 a ha) fun s' t' hk' => ⟨.str _ _, hk'⟩⟩
  · intro c' a s₅ B' F' G' hos hk X5
    walk1
    have hf : words.filter (fun _ => true) = words := List.filter_eq_self.mpr (fun _ _ => rfl)
    refine join_genSK F' G' X5 (Nat.le_refl _) (by rw [hf]; exact hok) (fun s' t' F2 G2 hos2 hk2 => ?_) (by have : sizeLine = 16777216 := rfl; omega)
    rw [hf]
    obtain ⟨FL, NL⟩ := regrown_after F N hpo F2.keep
    exact hret s' t' _ G2 (hos2.trans hos) (XR _) (TR _) FL NL
end
end S1
section S4
section
open Builtin Builtin.ObjectAttr Builtin.Getset_descriptor
variable {w : World} {A : Around} {R : Result → Shared → Prop} {h : Heap} {g : Array GenState} {d : Drawn} {t : Nat} {os : OsState}
theorem new604 (X : (hd.heap_39 w.params).In h)
    (hq : R (.ok (.ret (.ref (h.objs.size + 1)))) ⟨(h.push emptyDict).push (instObj 604 h.objs.size), g, d, t, os⟩) :
    codeAny (model PySem.Challenge.rw_il0144_01.row.prog w) A (.call (.builtin "object.__new__") ⟨[.ref 604], []⟩) R ⟨h, g, d, t, os⟩ := by
  revert X; k_fill; intro X
  obtain ⟨oc, od, cd, sl, hl, e1, e2⟩ : ∃ oc od cd sl, (hd.heap_39 w.params).lookup 604 = some ⟨oc, od, .cls cd, sl⟩ ∧ cd.abstract = false ∧ cd.hasDel = false := ⟨_, _, _, _, by k_is, rfl, rfl⟩
  have hC := X _ _ hl
  have F := PySem.F.objNew
  refine codeAny_call_builtin_code (Code.quiet_builtin _ F.quiet) ?_
  have chk : Looks (model PySem.Challenge.rw_il0144_01.row.prog w) h (checkBuiltinCall "object.__new__" ⟨[.ref 604], []⟩) () := Looks.of_peek X (by kernel_rfl)
  refine chk.here ?_
  have here : Looks (model PySem.Challenge.rw_il0144_01.row.prog w) h (Bind.madeHere "object.__new__" (.ref 604)) () := Looks.of_peek X (by kernel_rfl)
  refine codeAny_builtin F.entry ?_
  unfold Builtin.«object.__new__»
  have fin : ∀ A', wpAny (model PySem.Challenge.rw_il0144_01.row.prog w) A' (do
      let d ← if typeHasDict (.ref 604) then some <$> alloc { cls := .type "dict", data := .dict #[] } else pure none
      ret (← newObj (.ref 604) .plain d)) (fun fin s' => match fin with | .done f => R (.ok f) s' | .again c' => c'.quiet = true ∧ codeAny (model PySem.Challenge.rw_il0144_01.row.prog w) A c' R s') (fun e s' => R (.error e) s') ⟨h, g, d, t, os⟩ := by
    intro A'
    show wpAny _ _ ((alloc emptyDict >>= fun x => pure (some x)) >>= _) _ _ _
    refine wpAny_bind (wpAny_bind (wpAny_alloc (wpAny_pure (wpAny_bind ?_))))
    show wpAny _ _ (newObjAsIs _ _ _) _ _ _
    unfold newObjAsIs classHasDel
    refine wpAny_bind (wpAny_alloc (wpAny_bind (wpAny_bind (wpAny_load (Heap.get?_push_of_some _ (Heap.get?_push_of_some _ hC)) (wpAny_pure ?_)))))
    rw [e2]
    refine wpAny_pure (wpAny_pure ?_)
    show R _ _
    rw [Heap.size_push]
    exact hq
  repeat (first | simp only [e1, Bool.false_eq_true, if_false] | exact fin _ | lk)
end
section
variable {w : World} {A : Around} {h₀ : Heap} {L : Addr} {m : Str → Option Value} {s : Shared} {E : Value → Shared → Prop} {rest : List (Addr × Obj)}
theorem new604_N {Q : Value → Shared → Prop} (F : Fr h₀ L s.heap m) (N : News h₀ L s.heap rest) (X : (hd.heap_39 w.params).In h₀)
  (h : ∀ (x dx : Nat) h', Fr h₀ L h' m → News h₀ L h' ((x, instObj 604 dx) :: (dx, emptyDict) :: rest) → (∀ p ∈ rest, p.1 < dx) → dx < x → Q (.ref x) { s with heap := h' }) :
  wpAny (model PySem.Challenge.rw_il0144_01.row.prog w) A (call (.builtin "object.__new__") [.ref 604]) Q E s := by
  obtain ⟨hh, g, d, t, os⟩ := s
  have N' := (N.push F emptyDict).push (F.push _) (instObj 604 hh.objs.size)
  rw [Heap.size_push] at N'
  exact wpAny_call (new604 (X.keeps F.keep) (h _ hh.objs.size _ ((F.push _).push _) N' (fun p hp => Heap.lt_size (N p hp).1) (Nat.lt_succ_self _)))
end
theorem news_mid2 {h₀ h : Heap} {L : Addr} {a b c d : Addr × Obj} {l : List (Addr × Obj)} (N : News h₀ L h (a :: b :: c :: d :: l)) : News h₀ L h (a :: b :: l) := fun q hq => N q (by
  rcases List.mem_cons.mp hq with rfl | hq
  · exact .head _
  · rcases List.mem_cons.mp hq with rfl | hq
    · exact .tail _ (.head _)
    · exact .tail _ (.tail _ (.tail _ (.tail _ hq))))
theorem lt_drop2 {d : Nat} {a b : Addr × Obj} {l : List (Addr × Obj)} (h : ∀ p ∈ a :: b :: l, p.1 < d) : ∀ p ∈ l, p.1 < d := fun p hp => h p (.tail _ (.tail _ hp))
local macro_rules | `(tactic| walk_at "my enterB") => `(tactic| k_dflt (refine' kp_both ?k1 ?k2 ?k3 ?k4 ?k5 ?kA ?kF ?kK ?k6 ?k7 ?k8 ?kV ?kX ?kQ ?kM ?kN ?kD ?kR ?kP ?kS ?kT ?kB ?_ ?c2 ?c3 ?c4 ?c5; (case kA => exact rfl); (case kF => exact rfl); (case kK => first | exact rfl | assumption); (case k1 => k_asm); (case k2 => k_asm); (case k3 => k_asm); (case k4 => k_asm); (case k5 => k_asm); (case k6 => k_is); (case k7 => k_is); (case k8 => k_room); (case kV => kp_lit); (case kX => kp_lit); (case kQ => exact rfl); (case kM => exact rfl); (case kN => exact rfl); (case kD => kp_flats); (case kR => exact rfl); (case kP => exact rfl); (case kS => exact fun _ => rfl); (case kT => exact fun _ _ => rfl); (case kB => exact fun _ _ => locs rfl); (case c5 => decide); (case c2 => exact rfl); (case c3 => exact rfl); (case c4 => exact rfl); k_whole; intro C' D' o' g' L' h' tk' l1 l2 lo' hs' fs' FG' F' N' B' X' T'; (try k_lt l1); (try k_lt2 l2); (try dsimp only); (try k_lift B'); (try k_fold)))
local macro_rules | `(tactic| walk_at "call builtin:object.__new__") => `(tactic| (k_here; (with_reducible show wpAny _ _ (call (Value.builtin "object.__new__") [Value.ref 604]) _ _ _); k_dflt (refine' new604_N ?F ?N ?X ?_; (case F => k_asm); (case N => k_asm); (case X => k_asm)); intro x9 dx9 h9 F9 N9 l9 l9'; (try dsimp only)))
section
variable {w : World} {p0 : Program} {lo0 : List Str} {mean : ExcName → Option Value} {mg mb : Str → Option Value} {dp un : Nat} {gd : Option (List Code)} {cn : Str} {cs : Scope} {a : Addr} {ccd : Value} {cl : List (Str × Addr)} {outer : List Env} {A₀ : Around} {base h₀ : Heap} {L : Addr} {m : Str → Option Value} {s : Shared} {E : Value → Shared → Prop}
  {rest : List (Addr × Obj)} {line : Str} {tl : Tok}
theorem new97 {Q : Value → Shared → Prop} (B : Below A₀ base outer h₀) (F : Fr h₀ L s.heap m) (X : (hd.heap_39 w.params).In h₀) (T : Top p0 lo0 mean mg mb h₀) (hk : cs.kind = .function) (hdp : dp + 40 < recursionLimit) (hun : un + 180 < cLine)
  (N : News h₀ L s.heap rest)
  (hret : ∀ (x dx : Nat) h' tk', Fr h₀ L h' m → News h₀ L h' ((x, instObj 604 dx) :: (dx, emptyDict) :: rest) → (∀ p ∈ rest, p.1 < dx) → dx < x → Q (.ref x) { s with heap := h', toks := tk' }) :
  wpAny (model PySem.Challenge.rw_il0144_01.row.prog w) (ktrTop dp un gd cn cs L a ccd cl outer) (call (.ref 97) [.ref 604, .str line tl]) Q E s := by
  revert X; k_fill; intro X
  refine wpAny_call ?_
  walk_at "my enterB"
  k_steps
  exact hret _ _ _ _ (by k_asm) (news_mid2 (by k_asm)) (lt_drop2 (by assumption)) (by assumption)
end
section
variable {w : World} {p0 : Program} {lo0 : List Str} {mean : ExcName → Option Value} {mg mb : Str → Option Value} {dp un : Nat} {gd : Option (List Code)} {cn : Str} {cs : Scope} {a : Addr} {ccd : Value} {cl : List (Str × Addr)} {outer : List Env} {A₀ : Around} {base h₀ : Heap} {L : Addr} {m : Str → Option Value} {s : Shared} {E : Value → Shared → Prop}
  {rest : List (Addr × Obj)} {line : Str} {tl : Tok}
theorem sio_spec {Q : Value → Shared → Prop} (B : Below A₀ base outer h₀) (F : Fr h₀ L s.heap m) (X : (hd.heap_39 w.params).In h₀) (T : Top p0 lo0 mean mg mb h₀) (hk : cs.kind = .function) (hdp : dp + 50 < recursionLimit) (hun : un + 200 < cLine) (hb : line.length ≤ 50000)
  (N : News h₀ L s.heap rest)
  (hret : ∀ (io dio : Nat) h' tk' a b c d e f, Fr h₀ L h' m → News h₀ L h' ((io, instObj 604 dio) :: (dio, dictOf [ent w "_StringIO__newline" a (.str (Str.ofString "\n") b), ent w "_StringIO__buf" c (.str line d), ent w "_StringIO__pos" e (.int 0 f)] 3) :: rest) → (∀ p ∈ rest, p.1 < dio) → dio < io → Q (.ref io) { s with heap := h', toks := tk' }) :
  wpAny (model PySem.Challenge.rw_il0144_01.row.prog w) (ktrTop dp un gd cn cs L a ccd cl outer) (call (.ref 604) [.str line tl]) Q E s := by
  revert X; k_fill; intro X
  have X1 := X.keeps F.keep
  obtain ⟨oc, od, cd, sl, hl, e4⟩ : ∃ oc od cd sl, (hd.heap_39 w.params).lookup 604 = some ⟨oc, od, .cls cd, sl⟩ ∧ cd.mro.isEmpty = false := ⟨_, _, _, _, by k_is, rfl⟩
  have hC := X1 _ _ hl
  have made : Looks (model PySem.Challenge.rw_il0144_01.row.prog w) s.heap (Bind.madeBy (.ref 604)) none := Looks.of_peek X1 (by kernel_rfl)
  have hcall : Looks (model PySem.Challenge.rw_il0144_01.row.prog w) s.heap (specialOf (.ref 604) "__call__") (some (.builtin "type.__call__")) := Looks.of_peek X1 (by kernel_rfl)
  have typ : Looks (model PySem.Challenge.rw_il0144_01.row.prog w) s.heap (isInstance (.ref 604) (.type "type")) true := Looks.of_peek X1 (by kernel_rfl)
  refine wpAny_call ?_
  refine codeAny_of_tree ?_
  show wpAny _ _ (callAny (.ref 604) _) _ _ _
  refine nd_load hC ?_
  show wpAny _ _ (callAny.viaDunder (.ref 604) _) _ _ _
  unfold callAny.viaDunder
  refine wpAny_bind (hcall.at ?_)
  dsimp only
  rw [tc_bind]
  refine wpAny_bind (wpAny_pure (wpAny_bind (wpAny_pure ?_)))
  refine wpAny_pure (a := Fin.again (.call (.builtin "type.__call__") ⟨.ref 604 :: [.str line tl], []⟩)) (And.intro rfl ?_)
  refine codeAny_call_builtin_at (Code.quiet_builtin _ (by decide +kernel)) entry_typeCall (check_slot tc_kind tc_split typ (tc_args _ _ _) ?_)
  unfold Builtin.«type.__call__»
  have hm : Looks (model PySem.Challenge.rw_il0144_01.row.prog w) s.heap (mroOf (.ref 604)) cd.mro := ((Looks.ld (part := none) hC).andThen .now).andThen .now
  obtain ⟨hp, g, d, tk, os⟩ := s
  dsimp only at F N X1 made hcall typ hm hC
  repeat (first | simp only [e4, Bool.false_eq_true, if_false] | ((fail_if_success (with_reducible show wpAny _ _ (getAttr _ _ _) _ _ _)); lk))
  k_steps
  refine wpAny_bind (wpAny_holding ?_)
  refine new97 (dp := dp + 1) (un := un + 1) (gd := gd) (cn := cn) (cs := cs) (L := L) (a := a) (ccd := ccd) (cl := cl) (outer := outer) B F X T hk (by omega) (by omega) N fun x dx h' tk' F' N' l1 l2 => ?_
  have X' := X.keeps F'.keep
  have hx := (N' _ (.head _)).1
  have hi : Looks (model PySem.Challenge.rw_il0144_01.row.prog w) h' (isInstance (.ref x) (.ref 604)) true := ((Looks.ld hx).andThen .now : Looks _ h' (typeOf (.ref x)) (.ref 604)).andThen (looks_subIn X' (by k_is))
  refine wpAny_bind (hi.here ?_)
  simp only [Bool.not_true, Bool.false_eq_true, if_false]
  refine wpAny_bind (wpAny_holding ?_)
  have I : InstAt h' x (instObj 604 dx) 604 (some emptyDict) := ⟨hx, rfl, rfl, (N' _ (.tail _ (.head _))).1⟩
  refine' special_fn (name := "__init__") (args := [.str line tl]) X' I ?hs ?hf ?_
  case hs => k_is
  case hf => exact rfl
  clear X1 made hcall typ hm hC X' hx hi I F N
  refine wpAny_call ?_
  dsimp only at N' F' ⊢
  walk_at "my enter"
  k_steps
  refine wpAny_ite ?_
  rw [if_neg (by decide)]
  refine wpAny_pure ?_
  show Q (.ref x) _
  exact hret x dx _ _ _ _ _ _ _ _ (by k_asm) (by walk_at "my asm") l1 l2
end
theorem mro_dq : mroOf (.type "collections.deque") = pure [.type "collections.deque", .type "object"] := by rw [mroOf_type]; kernel_rfl
theorem slot_dq_init : Slot "collections.deque" "__init__" "collections.deque.__init__" :=
  .of (owner := "collections.deque") (n := "__init__") (by rw [typeLookup_type, builtinLookup_eq_fast]; kernel_rfl) (by decide +kernel) (by decide +kernel) (by decide +kernel)
    (by first | exact .inl (by decide +kernel) | exact .inr (by decide +kernel)) (by rw [isSubtype_type]; kernel_rfl)
theorem called_dq : TypeCalled "collections.deque" "collections.deque.__new__" "collections.deque.__init__" :=
  ⟨by decide +kernel, by decide +kernel, ⟨_, _, mro_dq⟩, madeBy_type mro_dq (by rw [typeLookup_type, builtinLookup_eq_fast]; kernel_rfl) (by decide +kernel), by decide +kernel, by rw [isSubtype_type]; kernel_rfl, slot_dq_init⟩
theorem entry_dq_new : entryFor table "collections.deque.__new__" = some Builtin.«collections.deque.__new__» := entryFor_of_fast (by kernel_rfl)
theorem entry_dq_init : entryFor table "collections.deque.__init__" = some Builtin.«collections.deque.__init__» := entryFor_of_fast (by kernel_rfl)
theorem plain_dq_new : plainId "collections.deque.__new__" = true := by decide +kernel
theorem args_dq_init (a : Value) : argsOk "collections.deque.__init__" ⟨[a], []⟩ := by unfold argsOk; kernel_rfl
section
variable {prog : Program} {w : World} {A : Around} {E : Value → Shared → Prop} {s : Shared}
theorem code_dq_new {Q₁ : Value → Shared → Prop}
    (h : Q₁ (.ref s.heap.objs.size) { s with heap := s.heap.push dqO }) :
    codeAny (model prog w) A (.call (.builtin "collections.deque.__new__") ⟨[.type "collections.deque"], []⟩) (wants Q₁ E) s := by
  refine codeAny_of_tree ?_
  have hnc : checkBuiltinCall "collections.deque.__new__" ⟨[.type "collections.deque"], []⟩ = pure () := by kernel_rfl
  show wpAny _ A.in1 (do checkBuiltinCall "collections.deque.__new__" ⟨[.type "collections.deque"], []⟩; again (.builtin "collections.deque.__new__" ⟨[.type "collections.deque"], []⟩)) _ _ s
  refine wpAny_bind (wpAny_of_eq hnc (wpAny_pure ⟨plainId_quiet plain_dq_new _, codeAny_builtin entry_dq_new ?_⟩))
  rw [Around.under_plainId plain_dq_new _]
  have hna : Builtin.Deque.newArgs Builtin.Deque.ty ⟨[.type "collections.deque"], []⟩ = pure (.type "collections.deque", []) := by kernel_rfl
  unfold Builtin.«collections.deque.__new__»
  rw [hna]
  show wpAny _ _ (Builtin.Deque.new (.type "collections.deque") #[] none >>= fun v => ret v) _ _ _
  unfold Builtin.Deque.new
  refine wpAny_bind ?_
  show wpAny _ _ (newObj (.type "collections.deque") (.fields #[.none, rawInt 0]) none) _ _ _
  refine wpAny_newObj_type ?_
  exact wpAny_pure (M := model prog w) h
theorem call_dq {h₀ : Heap} {L : Addr} {m : Str → Option Value} {news : List (Addr × Obj)} {Q : Value → Shared → Prop} (F : Fr h₀ L s.heap m) (N : News h₀ L s.heap news)
    (hQ : ∀ (d : Nat) h', Fr h₀ L h' m → News h₀ L h' ((d, dqO) :: news) → (∀ p ∈ news, p.1 < d) → Q (.ref d) { s with heap := h' }) :
    wpAny (model prog w) A (call (.type "collections.deque") []) Q E s := by
  have hct : checkTypeCall "collections.deque" ⟨[], []⟩ = pure () := by kernel_rfl
  refine callType_codes (Q₁ := fun obj s₁ => obj = .ref s.heap.objs.size ∧ s₁ = { s with heap := s.heap.push dqO }) called_dq hct entry_dq_init (code_dq_new ⟨rfl, rfl⟩) fun obj s₁ h₁ => ?_
  obtain ⟨rfl, rfl⟩ := h₁
  have hS : (s.heap.push dqO).get? s.heap.objs.size = some dqO := Heap.get?_push_size _ rfl
  refine ⟨⟨_, hS, rfl⟩, args_dq_init _, ?_⟩
  show wpAny _ _ (do setField (.ref s.heap.objs.size) 0 .none; Builtin.Deque.clear (.ref s.heap.objs.size); ret .none) _ _ _
  refine wpAny_bind (wpAny_setField hS rfl (by decide) ?_)
  have hu := Heap.get?_update_self (Obj.mapFields (·.setIfInBounds 0 Value.none)) hS rfl
  have sb : Heap.SameBut s.heap.objs.size (s.heap.push dqO) ((s.heap.push dqO).update s.heap.objs.size (Obj.mapFields (·.setIfInBounds 0 Value.none))) := Heap.SameBut.update ..
  have eo : Obj.mapFields (·.setIfInBounds 0 Value.none) dqO = dqO := rfl
  rw [eo] at hu
  unfold Builtin.Deque.clear Builtin.Deque.items
  refine wpAny_bind (wpAny_bind (wpAny_bind (wpAny_fieldsOf hu rfl (wpAny_pure ?_))))
  show wpAny _ _ (if (0 : Nat) > 0 then _ else _) _ _ _
  rw [if_neg (by decide)]
  have N1 := News.push F N dqO
  have z := N1 _ (.head _)
  refine wpAny_pure (wpAny_pure ⟨rfl, hQ _ _ ((F.push dqO).change sb z.2.1 z.2.2) (news_set (pre := []) N1 (fun q hq => nomatch hq) (fun q hq => Nat.ne_of_lt (Heap.lt_size (N q hq).1)) sb hu) fun p hp => Heap.lt_size (N p hp).1⟩)
end
section
variable {w : World} {p0 : Program} {lo0 : List Str} {mean : ExcName → Option Value} {mg mb : Str → Option Value} {dp un : Nat} {gd : Option (List Code)} {cn : Str} {cs : Scope} {a : Addr} {ccd : Value} {cl : List (Str × Addr)} {outer : List Env} {A₀ : Around} {base h₀ : Heap} {L : Addr} {m : Str → Option Value} {s : Shared} {E : Value → Shared → Prop}
  {lex dlex io dio pb fs : Nat} {rest : List (Addr × Obj)} {buf cm wc : Str} {px : Bool} {eof : Value} {t1 ttk t6 tln a0 a1 a2 a3 a4 a5 a6 a7 a8 a9 a10 a11 a12 a13 a14 a15 a16 a17 a18 v20 v21 v22 v23 v24 v25 v26 v27 v28 b30 b31 b32 b33 b34 : Tok} {ln : Int}
/-- list(lex), from the reader as split has made it -/
theorem list_raw {Q : Value → Shared → Prop} {ts : List Str} (B : Below A₀ base outer h₀) (F : Fr h₀ L s.heap m) (X : (hd.heap_39 w.params).In h₀) (T : Top p0 lo0 mean mg mb h₀) (hk : cs.kind = .function)
  (N : News h₀ L s.heap ((fs, dqO) :: (pb, dqO) :: (io, instObj 604 dio) :: (dio, dictOf [ent w "_StringIO__newline" b30 (.str (Str.ofString "\n") b33), ent w "_StringIO__buf" b31 (.str buf b34), ent w "_StringIO__pos" b32 (.int 0 t6)] 3) :: (lex, instObj 739 dlex) :: (dlex, dictOf [ent w "instream" a0 (.ref io), ent w "infile" a1 .none, ent w "posix" a2 (.bool px), ent w "eof" a3 eof, ent w "commenters" a4 (.str cm v20), ent w "wordchars" a5 (.str wc v21), ent w "whitespace" a6 (.str (Str.ofString " \t\r\n") v22), ent w "whitespace_split" a7 (.bool true), ent w "quotes" a8 (.str (Str.ofString "'\"") v23), ent w "escape" a9 (.str (Str.ofString "\\") v24), ent w "escapedquotes" a18 (.str (Str.ofString "\"") v28), ent w "state" a10 (.str (Str.ofString " ") t1), ent w "pushback" a11 (.ref pb), ent w "lineno" a12 (.int ln tln), ent w "debug" a13 (.int 0 v25), ent w "token" a14 (.str (Str.ofString "") ttk), ent w "filestack" a15 (.ref fs), ent w "source" a16 .none, ent w "_punctuation_chars" a17 (.str (Str.ofString "") v26)] 19) :: rest))
  (hne : lex ≠ dlex) (hne1 : lex ≠ dio) (hne2 : dlex ≠ dio) (hne3 : io ≠ dio) (hne4 : pb ≠ dio) (hne5 : fs ≠ dio) (hr1 : ∀ q ∈ rest, q.1 ≠ dio)
  (hdl1 : io ≠ dlex) (hdl2 : pb ≠ dlex) (hdl3 : fs ≠ dlex) (hdl4 : ∀ q ∈ rest, q.1 ≠ dlex)
  (hdp : dp + 36 < recursionLimit) (hun : un + 150 < cLine) (hb : buf.length ≤ 50000) (hwq : ∀ c, inS wc c = true → inS (Str.ofString "'\"") c = false)
  (heof : eof = if px = true then .none else .str (Str.ofString "") v27) (Rd : Reads px cm false buf.cps.toList ts) (hts : ts.length ≤ 60000)
  (hret : ∀ (S : Addr) g' h' tk' vs c, KtsTurn (outer.filterMap (·.frame)) h₀ g' → Fr g' L h' m → News g' L h' ((S, listOf vs c) :: rest) → (∀ q ∈ rest, q.1 < S) → Below A₀ base outer g' → StrsAre vs.toList ts → Q (.ref S) { s with heap := h', toks := tk' }) :
  wpAny (model PySem.Challenge.rw_il0144_01.row.prog w) (ktrTop dp un gd cn cs L a ccd cl outer) (call (.type "list") [.ref lex]) Q E s := by
  have N' : News h₀ L s.heap (LexL w (fun n => ([a0, a1, a2, a3, a4, a5, a6, a7, a8, a9, a10, a11, a12, a13, a14, a15, a16, a17, a18, 0, v20, v21, v22, v23, v24, v25, v26, v27, v28, 0, b30, b31, b32, b33, b34] : List Tok).getD n 0) lex dlex io dio pb fs px eof cm wc buf false 0 t1 ttk t6 tln ln rest) := by
    intro q hq
    refine N q ?_
    have h1 : q ∈ [(lex, _), (dlex, _), (io, _), (dio, _), (pb, _), (fs, _)] ++ rest := hq
    rcases List.mem_append.mp h1 with h | h
    · refine List.mem_append_left (as := [(fs, _), (pb, _), (io, _), (dio, _), (lex, _), (dlex, _)]) rest ?_
      simp only [List.mem_cons, List.not_mem_nil, or_false] at h ⊢
      rcases h with h | h | h | h | h | h
      · exact .inr (.inr (.inr (.inr (.inl h))))
      · exact .inr (.inr (.inr (.inr (.inr h))))
      · exact .inr (.inr (.inl h))
      · exact .inr (.inr (.inr (.inl h)))
      · exact .inr (.inl h)
      · exact .inl h
    · exact List.mem_append_right [(fs, _), (pb, _), (io, _), (dio, _), (lex, _), (dlex, _)] h
  exact list_lex B F X T hk hne hne1 hne2 hne3 hne4 hne5 hr1 hdl1 hdl2 hdl3 hdl4 hdp hun hb hwq heof (dn := false) (p := 0) Rd (Nat.zero_le _) hts N' hret
end
theorem ne_of_lt_all {rest : List (Addr × Obj)} {d x : Nat} (h : ∀ p ∈ rest, p.1 < d) (hd : d ≤ x) : ∀ p ∈ rest, p.1 ≠ x := fun p hp => Nat.ne_of_lt (Nat.lt_of_lt_of_le (h p hp) hd)
theorem units_under (A : Around) (c : Code) : (A.under c).units = A.units + c.cUnits := rfl
theorem cu_typecall (args : Args) : (Code.builtin "type.__call__" args).cUnits = 1 := by first | rfl | decide +kernel
local macro_rules | `(tactic| k_all) => `(tactic| exact ne_of_lt_all (by assumption) (by omega))
local macro_rules | `(tactic| k_units) => `(tactic| (have hcL9 := cLine_is; (try simp only [units_under, cu_typecall, units_in1, units_deeper, Around.mark_units, units_caller] at *); (try dsimp only [ktrTop] at *); omega))
local macro_rules | `(tactic| walk_at "call ref") => `(tactic| (k_here; (with_reducible show wpAny _ _ (call (Value.ref 604) [Value.str _ _]) _ _ _); k_dflt (refine' sio_spec ?kB ?kF ?kX ?kT ?kk ?hdp ?hun ?hb ?kN ?_; (case kB => k_asm); (case kF => k_asm); (case kX => k_asm); (case kT => k_asm); (case kk => rfl); (case kN => k_asm); (case hdp => k_room); (case hun => k_units); (case hb => assumption); intro io9 dio9 h9 tk9 a9 b9 c9 d9 e9 f9 F9 N9 l9 l9'; (try k_lt l9); (try dsimp only))))
local macro_rules | `(tactic| walk_at "call type:collections.deque") => `(tactic| (k_here; (with_reducible show wpAny _ _ (call (Value.type "collections.deque") []) _ _ _); k_dflt (refine' call_dq ?kF ?kN ?_; (case kF => k_asm); (case kN => k_asm)); intro d9 h9 F9 N9 l9; (try k_lt l9); (try dsimp only)))
theorem hwq_of {wc : Str} (h1 : inS wc 39 = false) (h2 : inS wc 34 = false) : ∀ c, inS wc c = true → inS (Str.ofString "'\"") c = false := by
  intro c hc
  have e : (Str.ofString "'\"").cps.toList = [39, 34] := by decide +kernel
  cases h : inS (Str.ofString "'\"") c with
  | false => rfl
  | true =>
    have h' := of_decide_eq_true h
    rw [e] at h'
    simp only [List.mem_cons, List.not_mem_nil, or_false] at h'
    rcases h' with rfl | rfl
    · rw [h1] at hc; cases hc
    · rw [h2] at hc; cases hc
/-- what the four argument lists of split bind -/
def Binds751 (w : World) (s : Shared) (args : List Value) (line : Str) (tl : Tok) (c p : Bool) : Prop :=
  ∀ fd, fnD w 751 = some fd → BindsTo s fd ⟨args, []⟩ [(Str.ofString "s", .str line tl), (Str.ofString "comments", .bool c), (Str.ofString "posix", .bool p)]
theorem binds751_use {w : World} {s : Shared} {args : List Value} {line : Str} {tl : Tok} {c p : Bool} {fd : FuncData} (h : Binds751 w s args line tl c p) (e : fnD w 751 = some fd) :
    BindsTo s fd ⟨args, []⟩ [(Str.ofString "s", .str line tl), (Str.ofString "comments", .bool c), (Str.ofString "posix", .bool p)] := h fd e
def cmOf (c : Bool) : Str := match c with
  | true => Str.ofString "#"
  | false => Str.ofString ""
section
local macro_rules | `(tactic| walk_at "my enterS") => `(tactic| k_dflt (refine' code_defS0 ?k1 ?k2 ?k3 ?k4 ?k5 ?kA ?k6 ?k7 ?k8 ?k9 ?kB ?_ ?cK ?c2 ?c3 ?c4 ?c5; (case kA => exact rfl); (case k2 => k_asm); (case k1 => k_asm); (case k3 => k_asm); (case k4 => k_asm); (case k5 => k_asm); (case k6 => k_is); (case k7 => k_is); (case k8 => k_room); (case k9 => exact binds751_use (by assumption) (by kernel_rfl)); (case kB => exact locs rfl); (case cK => first | exact rfl | assumption); (case c2 => exact rfl); (case c3 => exact rfl); (case c4 => exact rfl); (case c5 => decide); k_whole; intro g' L' h' FG' F' N' B' X' T' D'; (try dsimp only); (try k_lift B'); (try k_fold)))
variable {w : World} {p0 : Program} {lo0 : List Str} {mean : ExcName → Option Value} {mg mb : Str → Option Value} {dp un : Nat} {gd : Option (List Code)} {cn : Str} {cs : Scope} {a : Addr} {ccd : Value} {cl : List (Str × Addr)} {outer : List Env} {A₀ : Around} {base h₀ : Heap} {L : Addr} {m : Str → Option Value} {s : Shared} {E : Value → Shared → Prop}
  {rest : List (Addr × Obj)} {line : Str} {tl : Tok} {ts : List Str} {Q : Value → Shared → Prop}
theorem split_gP (c : Bool) {args : List Value} (hbd : Binds751 w s args line tl c true) (B : Below A₀ base [] h₀) (F : Fr h₀ L s.heap m) (X : (hd.heap_39 w.params).In h₀) (T : Top p0 lo0 mean mg mb h₀) (hk : cs.kind = .function) (hdp : dp + 60 < recursionLimit) (hun : un + 300 < cLine) (hb : line.length ≤ 50000)
  (N : News h₀ L s.heap rest) (Rd : Reads true (cmOf c) false line.cps.toList ts) (hts : ts.length ≤ 60000)
  (hret : ∀ (S : Nat) h' tk' vs c, Fr h₀ L h' m → News h₀ L h' ((S, listOf vs c) :: rest) → (∀ q ∈ rest, q.1 < S) → StrsAre vs.toList ts → Q (.ref S) { s with heap := h', toks := tk' }) :
  wpAny (model PySem.Challenge.rw_il0144_01.row.prog w) (ktrTop dp un gd cn cs L a ccd [] []) (call (.ref 751) args) Q E s := by
  revert X; k_fill; intro X
  refine wpAny_call ?_
  walk_at "my enterS"
  k_steps
  all_goals (first | rw [show c = true by assumption] at Rd | rw [show c = false by assumption] at Rd)
  all_goals dsimp only [cmOf] at Rd
  all_goals
    k_dflt (refine' list_raw (v27 := 0) ?kB ?kF ?kX ?kT ?kk ?kN ?c1 ?c2 ?c3 ?c4 ?c5 ?c6 ?c7 ?c8 ?c9 ?c10 ?c11 ?hdp ?hun ?hb ?hwq ?heof Rd hts ?_)
    case kB => k_asm
    case kF => k_asm
    case kX => k_asm
    case kT => k_asm
    case kk => rfl
    case kN => k_asm
    case c1 => (try dsimp only); omega
    case c2 => (try dsimp only); omega
    case c3 => (try dsimp only); omega
    case c4 => (try dsimp only); omega
    case c5 => (try dsimp only); omega
    case c6 => (try dsimp only); omega
    case c7 => k_all
    case c8 => (try dsimp only); omega
    case c9 => (try dsimp only); omega
    case c10 => (try dsimp only); omega
    case c11 => k_all
    case hdp => k_room
    case hun => k_units
    case hb => assumption
    case hwq => exact hwq_of (by decide +kernel) (by decide +kernel)
    case heof => rfl
    intro S9 g9 h9 tk9 vs9 c9 T9 F9 N9 l9 B9 v9
    k_steps
    exact hret S9 h9 tk9 vs9 c9 (by k_asm) (by k_asm) l9 v9
theorem split_gN (c : Bool) {args : List Value} (hbd : Binds751 w s args line tl c false) (B : Below A₀ base [] h₀) (F : Fr h₀ L s.heap m) (X : (hd.heap_39 w.params).In h₀) (T : Top p0 lo0 mean mg mb h₀) (hk : cs.kind = .function) (hdp : dp + 60 < recursionLimit) (hun : un + 300 < cLine) (hb : line.length ≤ 50000)
  (N : News h₀ L s.heap rest) (Rd : Reads false (cmOf c) false line.cps.toList ts) (hts : ts.length ≤ 60000)
  (hret : ∀ (S : Nat) h' tk' vs c, Fr h₀ L h' m → News h₀ L h' ((S, listOf vs c) :: rest) → (∀ q ∈ rest, q.1 < S) → StrsAre vs.toList ts → Q (.ref S) { s with heap := h', toks := tk' }) :
  wpAny (model PySem.Challenge.rw_il0144_01.row.prog w) (ktrTop dp un gd cn cs L a ccd [] []) (call (.ref 751) args) Q E s := by
  revert X; k_fill; intro X
  refine wpAny_call ?_
  walk_at "my enterS"
  k_steps
  all_goals (first | rw [show c = true by assumption] at Rd | rw [show c = false by assumption] at Rd)
  all_goals dsimp only [cmOf] at Rd
  all_goals
    k_dflt (refine' list_raw ?kB ?kF ?kX ?kT ?kk ?kN ?c1 ?c2 ?c3 ?c4 ?c5 ?c6 ?c7 ?c8 ?c9 ?c10 ?c11 ?hdp ?hun ?hb ?hwq ?heof Rd hts ?_)
    case kB => k_asm
    case kF => k_asm
    case kX => k_asm
    case kT => k_asm
    case kk => rfl
    case kN => k_asm
    case c1 => (try dsimp only); omega
    case c2 => (try dsimp only); omega
    case c3 => (try dsimp only); omega
    case c4 => (try dsimp only); omega
    case c5 => (try dsimp only); omega
    case c6 => (try dsimp only); omega
    case c7 => k_all
    case c8 => (try dsimp only); omega
    case c9 => (try dsimp only); omega
    case c10 => (try dsimp only); omega
    case c11 => k_all
    case hdp => k_room
    case hun => k_units
    case hb => assumption
    case hwq => exact hwq_of (by decide +kernel) (by decide +kernel)
    case heof => rfl
    intro S9 g9 h9 tk9 vs9 c9 T9 F9 N9 l9 B9 v9
    k_steps
    exact hret S9 h9 tk9 vs9 c9 (by k_asm) (by k_asm) l9 v9
theorem b751_P (X : (hd.heap_39 w.params).In s.heap) : Binds751 w s [.str line tl] line tl false true := by
  intro fd e
  revert X; k_fill; intro X
  unfold fnD at e
  rw [show (hd.heap_39 w.params).lookup 751 = some _ from by k_is] at e
  obtain rfl := Option.some.inj e
  first | exact BindsTo.of_eq rfl | exact binds_K X rfl (by k_is) rfl rfl rfl
theorem b751_N (X : (hd.heap_39 w.params).In s.heap) : Binds751 w s [.str line tl, .bool false, .bool false] line tl false false := by
  intro fd e
  revert X; k_fill; intro X
  unfold fnD at e
  rw [show (hd.heap_39 w.params).lookup 751 = some _ from by k_is] at e
  obtain rfl := Option.some.inj e
  first | exact BindsTo.of_eq rfl | exact binds_K X rfl (by k_is) rfl rfl rfl
theorem b751_PC (X : (hd.heap_39 w.params).In s.heap) : Binds751 w s [.str line tl, .bool true] line tl true true := by
  intro fd e
  revert X; k_fill; intro X
  unfold fnD at e
  rw [show (hd.heap_39 w.params).lookup 751 = some _ from by k_is] at e
  obtain rfl := Option.some.inj e
  first | exact BindsTo.of_eq rfl | exact binds_K X rfl (by k_is) rfl rfl rfl
theorem b751_NC (X : (hd.heap_39 w.params).In s.heap) : Binds751 w s [.str line tl, .bool true, .bool false] line tl true false := by
  intro fd e
  revert X; k_fill; intro X
  unfold fnD at e
  rw [show (hd.heap_39 w.params).lookup 751 = some _ from by k_is] at e
  obtain rfl := Option.some.inj e
  first | exact BindsTo.of_eq rfl | exact binds_K X rfl (by k_is) rfl rfl rfl
theorem split_P (B : Below A₀ base [] h₀) (F : Fr h₀ L s.heap m) (X : (hd.heap_39 w.params).In h₀) (T : Top p0 lo0 mean mg mb h₀) (hk : cs.kind = .function) (hdp : dp + 60 < recursionLimit) (hun : un + 300 < cLine) (hb : line.length ≤ 50000)
  (N : News h₀ L s.heap rest) (Rd : Reads true (Str.ofString "") false line.cps.toList ts) (hts : ts.length ≤ 60000)
  (hret : ∀ (S : Nat) h' tk' vs c, Fr h₀ L h' m → News h₀ L h' ((S, listOf vs c) :: rest) → (∀ q ∈ rest, q.1 < S) → StrsAre vs.toList ts → Q (.ref S) { s with heap := h', toks := tk' }) :
  wpAny (model PySem.Challenge.rw_il0144_01.row.prog w) (ktrTop dp un gd cn cs L a ccd [] []) (call (.ref 751) [.str line tl]) Q E s :=
  split_gP false (b751_P (X.keeps F.keep)) B F X T hk hdp hun hb N Rd hts hret
theorem split_N (B : Below A₀ base [] h₀) (F : Fr h₀ L s.heap m) (X : (hd.heap_39 w.params).In h₀) (T : Top p0 lo0 mean mg mb h₀) (hk : cs.kind = .function) (hdp : dp + 60 < recursionLimit) (hun : un + 300 < cLine) (hb : line.length ≤ 50000)
  (N : News h₀ L s.heap rest) (Rd : Reads false (Str.ofString "") false line.cps.toList ts) (hts : ts.length ≤ 60000)
  (hret : ∀ (S : Nat) h' tk' vs c, Fr h₀ L h' m → News h₀ L h' ((S, listOf vs c) :: rest) → (∀ q ∈ rest, q.1 < S) → StrsAre vs.toList ts → Q (.ref S) { s with heap := h', toks := tk' }) :
  wpAny (model PySem.Challenge.rw_il0144_01.row.prog w) (ktrTop dp un gd cn cs L a ccd [] []) (call (.ref 751) [.str line tl, .bool false, .bool false]) Q E s :=
  split_gN false (b751_N (X.keeps F.keep)) B F X T hk hdp hun hb N Rd hts hret
theorem split_PC (B : Below A₀ base [] h₀) (F : Fr h₀ L s.heap m) (X : (hd.heap_39 w.params).In h₀) (T : Top p0 lo0 mean mg mb h₀) (hk : cs.kind = .function) (hdp : dp + 60 < recursionLimit) (hun : un + 300 < cLine) (hb : line.length ≤ 50000)
  (N : News h₀ L s.heap rest) (Rd : Reads true (Str.ofString "#") false line.cps.toList ts) (hts : ts.length ≤ 60000)
  (hret : ∀ (S : Nat) h' tk' vs c, Fr h₀ L h' m → News h₀ L h' ((S, listOf vs c) :: rest) → (∀ q ∈ rest, q.1 < S) → StrsAre vs.toList ts → Q (.ref S) { s with heap := h', toks := tk' }) :
  wpAny (model PySem.Challenge.rw_il0144_01.row.prog w) (ktrTop dp un gd cn cs L a ccd [] []) (call (.ref 751) [.str line tl, .bool true]) Q E s :=
  split_gP true (b751_PC (X.keeps F.keep)) B F X T hk hdp hun hb N Rd hts hret
theorem split_NC (B : Below A₀ base [] h₀) (F : Fr h₀ L s.heap m) (X : (hd.heap_39 w.params).In h₀) (T : Top p0 lo0 mean mg mb h₀) (hk : cs.kind = .function) (hdp : dp + 60 < recursionLimit) (hun : un + 300 < cLine) (hb : line.length ≤ 50000)
  (N : News h₀ L s.heap rest) (Rd : Reads false (Str.ofString "#") false line.cps.toList ts) (hts : ts.length ≤ 60000)
  (hret : ∀ (S : Nat) h' tk' vs c, Fr h₀ L h' m → News h₀ L h' ((S, listOf vs c) :: rest) → (∀ q ∈ rest, q.1 < S) → StrsAre vs.toList ts → Q (.ref S) { s with heap := h', toks := tk' }) :
  wpAny (model PySem.Challenge.rw_il0144_01.row.prog w) (ktrTop dp un gd cn cs L a ccd [] []) (call (.ref 751) [.str line tl, .bool true, .bool false]) Q E s :=
  split_gN true (b751_NC (X.keeps F.keep)) B F X T hk hdp hun hb N Rd hts hret
end
end S4
section S6
-- lists of texts: pop, remove
theorem strs_last {vs : List Value} {ws : List Str} (h : StrsAre vs ws) (hne : ws ≠ []) : ∃ ps us x t, vs = ps ++ [.str x t] ∧ ws = us ++ [x] ∧ StrsAre ps us := by
  induction h with
  | nil => exact absurd rfl hne
  | cons x t r ih =>
    rename_i vs ws
    cases ws with
    | nil =>
      cases r
      exact ⟨[], [], x, t, rfl, rfl, .nil⟩
    | cons y ys =>
      obtain ⟨ps, us, z, u, h1, h2, h3⟩ := ih (by simp)
      exact ⟨.str x t :: ps, x :: us, z, u, by rw [h1]; rfl, by rw [h2]; rfl, .cons _ _ h3⟩
theorem strs_erase {x : Str} {vs : List Value} {ws : List Str} (h : StrsAre vs ws) (hm : x ∈ ws) : ∃ j, ∃ hj : j < vs.length, isStrOf x vs[j] = true ∧ (∀ i (hi : i < vs.length), i < j → isStrOf x vs[i] = false) ∧ StrsAre (vs.eraseIdx j) (ws.erase x) := by
  induction h with
  | nil => cases hm
  | cons y t r ih =>
    rename_i vs ws
    by_cases hxy : y = x
    · subst hxy
      refine ⟨0, by simp, by simp [isStrOf], fun i hi h0 => by omega, ?_⟩
      rw [List.erase_cons_head]
      exact r
    · have hm' : x ∈ ws := by
        rcases List.mem_cons.mp hm with e | e
        · exact absurd e.symm hxy
        · exact e
      obtain ⟨j, hj, h1, h2, h3⟩ := ih hm'
      refine ⟨j + 1, by simp only [List.length_cons]; omega, by simpa using h1, ?_, ?_⟩
      · intro i hi hij
        cases i with
        | zero => simp [isStrOf, hxy]
        | succ i => simpa using h2 i (by simpa using hi) (by omega)
      · have e : (y :: ws).erase x = y :: ws.erase x := List.erase_cons_tail (by simpa using hxy)
        rw [e]
        exact .cons _ _ h3
theorem strs_miss {x : Str} {vs : List Value} {ws : List Str} (h : StrsAre vs ws) (hm : x ∉ ws) : ∀ i (hi : i < vs.length), isStrOf x vs[i] = false := by
  induction h with
  | nil => intro i hi; simp at hi
  | cons y t r ih =>
    intro i hi
    have h1 : ¬ y = x := fun e => hm (by rw [e]; exact List.mem_cons_self)
    cases i with
    | zero => simp [isStrOf, h1]
    | succ i => simpa using ih (fun e => hm (List.mem_cons_of_mem _ e)) i (by simpa using hi)
section
variable {prog : Program} {w : World} {A : Around} {E : Value → Shared → Prop} {s : Shared} {h₀ : Heap} {L D : Addr} {m : Str → Option Value} {news : List (Addr × Obj)} {Q : Value → Shared → Prop}
theorem remove_hit {vs : List Value} {ws : List Str} {n : Nat} {x : Str} {u : Tok} {j : Nat} (F : Fr h₀ L s.heap m) (hv : StrsAre vs ws) (hj : j < vs.length) (h1 : isStrOf x vs[j] = true) (h2 : ∀ i (hi : i < vs.length), i < j → isStrOf x vs[i] = false) (hsz : vs.length ≤ 100000)
    {news' : List (Addr × Obj)} (N : News h₀ L s.heap news) (U : Upd D (listOf vs.toArray n) (listOf (vs.eraseIdx j).toArray (n + 1)) news news')
    (h : ∀ h', Fr h₀ L h' m → News h₀ L h' news' → Q .none { s with heap := h' }) :
    wpAny (model prog w) A (call (.builtin "list.remove") [.ref D, .str x u]) Q E s := by
  obtain ⟨pre, post, rfl, rfl, a, b⟩ := U.split
  have z := N (D, listOf vs.toArray n) (List.mem_append.mpr (.inr (.head _)))
  have hl : sizeLine = 16777216 := rfl
  refine wpAny_call (codeAny_call_builtin PySem.F.slot_list_remove.plain PySem.F.entry_list_remove (PySem.F.slot_list_remove.check _ _ _ _ _ _ _ _ ⟨_, z.1, rfl⟩ (PySem.F.args_list_remove_2 _ _) ?_))
  refine (MeetsSeq.list_remove D vs.toArray n (.str x u) (isStrOf x) (fun y hy => eq_isStrOf x u hv y (by simpa using hy)) j (by simpa using hj) (by simpa using h1) (fun i hi hij => by simpa using h2 i (by simpa using hi) hij) (by simp; omega)) prog w _ _ s ⟨z.1, ?_⟩
  have hs : Heap.SameBut D s.heap (s.heap.update D (Obj.mapSeq fun xs => xs.eraseIdxIfInBounds j)) := Heap.SameBut.update ..
  have ho : (s.heap.update D (Obj.mapSeq fun xs => xs.eraseIdxIfInBounds j)).get? D = some (listOf (vs.eraseIdx j).toArray (n + 1)) := by
    rw [Heap.get?_update_self _ z.1 (by rfl)]
    have e : vs.toArray.eraseIdxIfInBounds j = (vs.eraseIdx j).toArray := by simp
    have hz : (vs.eraseIdx j).length ≠ vs.length := by
      rw [List.length_eraseIdx_of_lt hj]
      omega
    simp only [Obj.mapSeq, e, List.size_toArray]
    rw [if_neg (by simpa using hz)]
  exact h _ (F.change hs z.2.1 z.2.2) (news_set N a b hs ho)
theorem remove_miss {vs : List Value} {ws : List Str} {n : Nat} {x : Str} {u : Tok} (hh : A.handled = none) (hv : StrsAre vs ws) (hm : x ∉ ws) (N : News h₀ L s.heap news) (hD : (D, listOf vs.toArray n) ∈ news)
    (h : ∀ h' tk e, Heap.NewExc s.heap h' e "ValueError" → E (.ref e) { s with heap := h', toks := tk }) :
    wpAny (model prog w) A (call (.builtin "list.remove") [.ref D, .str x u]) Q E s := by
  have z := N _ hD
  refine wpAny_call (codeAny_call_builtin PySem.F.slot_list_remove.plain PySem.F.entry_list_remove (PySem.F.slot_list_remove.check _ _ _ _ _ _ _ _ ⟨_, z.1, rfl⟩ (PySem.F.args_list_remove_2 _ _) ?_))
  exact (MeetsSeq.list_remove_none D vs.toArray n (.str x u) (isStrOf x) (fun y hy => eq_isStrOf x u hv y (by simpa using hy)) (fun i hi => by simpa using strs_miss hv hm i (by simpa using hi))) prog w _ _ s ⟨z.1, hh, h⟩
end
section
variable {prog : Program} {w : World} {A : Around} {E : Value → Shared → Prop} {s : Shared} {env : Env} {test : PySem.Expr} {body orelse : List Stmt} {Q : Flow → Shared → Prop} {ι : Type}
/-- a while loop whose turns go down along a measure -/
def WhlNext (I : ι → Shared → Prop) (μ : ι → Nat) (i : ι) (s' : Shared) : Prop := ∃ j, μ j < μ i ∧ I j s'
def WhlFlow (Q : Flow → Shared → Prop) (I : ι → Shared → Prop) (μ : ι → Nat) (i : ι) (f : Flow) (s' : Shared) : Prop := match f with
  | .next => WhlNext I μ i s'
  | .cont => WhlNext I μ i s'
  | .brk => Q .next s'
  | .ret v => Q (.ret v) s'
theorem whl_ind (I : ι → Shared → Prop) (μ : ι → Nat)
    (turn : ∀ i s, I i s → wpAny (model prog w) A (isTrue test env (eval test env)) (fun b s₂ => WhlIf b (wpAny (model prog w) A (execs body env) (WhlFlow Q I μ i) E s₂) (wpAny (model prog w) A (execs orelse env) Q E s₂)) E s)
    (hE : PassesOwn (model prog w) A env E) (i : ι) {pos : Pos} (h : I i s) : wpAny (model prog w) A (exec (.While test body orelse pos) env) Q E s := by
  refine whl_start 1 ?_
  have key : ∀ n i s, μ i = n → I i s → WhlRest prog w A E env test body orelse Q 1 s := by
    intro n
    induction n using Nat.strongRecOn with
    | ind n ih =>
      intro i s hn hi
      refine whl_turn hE (wpAny_mono (turn i s hi) (fun b s₂ hb => ?_) fun _ _ e => e)
      cases b with
      | false => exact hb
      | true =>
        refine wpAny_mono (hb : wpAny (model prog w) A (execs body env) (WhlFlow Q I μ i) E s₂) (fun f s₃ hf => ?_) fun _ _ e => e
        cases f with
        | next =>
          obtain ⟨j, hj, hI⟩ := hf
          exact ih (μ j) (hn ▸ hj) j s₃ rfl hI
        | cont =>
          obtain ⟨j, hj, hI⟩ := hf
          exact ih (μ j) (hn ▸ hj) j s₃ rfl hI
        | brk => exact hf
        | ret v => exact hf
  exact key _ i s rfl h
end
/-- unorderable_list_difference: what is popped, one after the other, from the first list -/
def uld : List Str → List Str → List Str × List Str
  | [], act => ([], act)
  | x :: xs, act => if x ∈ act then uld xs (act.erase x) else (x :: (uld xs act).1, (uld xs act).2)
section
variable {prog : Program} {w : World} {A A₀ : Around} {E : Value → Shared → Prop} {s : Shared} {h₀ : Heap} {L D : Addr} {m : Str → Option Value} {news : List (Addr × Obj)}
theorem truthy_lst {vs : List Value} {n : Nat} {Q : Bool → Shared → Prop} (N : News h₀ L s.heap news) (hm : (D, listOf vs.toArray n) ∈ news) (hsz : vs.length ≤ 100000) (h : Q (!vs.isEmpty) { s with toks := s.toks + 1 + 1 }) :
    wpAny (model prog w) A (truthy (.ref D)) Q E s := by
  refine wpAny_truthy_list (N.isList hm) (by simp; omega) ?_
  have e : (!vs.toArray.isEmpty) = (!vs.isEmpty) := by simp
  rw [e]
  exact h
theorem pop_lst {ps : List Value} {y : Value} {n : Nat} {Q : Value → Shared → Prop} {news' : List (Addr × Obj)} (F : Fr h₀ L s.heap m) (N : News h₀ L s.heap news) (U : Upd D (listOf (ps ++ [y]).toArray n) (listOf ps.toArray (n + 1)) news news') (hsz : ps.length ≤ 100000)
    (h : ∀ h' tk, Fr h₀ L h' m → News h₀ L h' news' → Q y { s with heap := h', toks := tk }) : wpAny (model prog w) A (call (.builtin "list.pop") [.ref D]) Q E s := by
  have hl : sizeLine = 16777216 := rfl
  exact kl_pop (its := (ps ++ [y]).toArray) F N (kpa_last y ps) U (by simp; omega) fun h' F' N' => h h' s.toks F' N'
theorem clause_VE {L a e : Addr} {name : Str} {scope : Scope} {cd fl : Value} {K : Frag} {p0 : Program} {lo0 : List Str} {mean : ExcName → Option Value} {mg mb : Str → Option Value} {np pos : Pos} {b₀ : Stmt} {suite : List Stmt} {rest : List ExceptHandler} {Q : Flow → Shared → Prop}
    (H : TT.HeldNA h₀ L s.heap m e "ValueError" news fl) (X : K.In h₀) (T : Top p0 lo0 mean mg mb h₀) (ex : nsIn K mainGlobals (Str.ofString "ValueError") = some none)
    (k : ∀ h', Fr h₀ L h' m → News h₀ L h' news → wpAny (model prog w) ((A₀.deeper (envOf name scope L a cd)).mark (some (.ref e))) (execs (b₀ :: suite) (envOf name scope L a cd)) Q E { s with heap := h' })
    (hk : scope.kind = .function := by rfl) (hx : (envOf name scope L a cd).kindOf (Str.ofString "ValueError") = some .globalImplicit := by rfl)
    (hE : PassesOwnAt (model prog w) ((A₀.deeper (envOf name scope L a cd)).mark (some (.ref e))) (A₀.deeper (envOf name scope L a cd)) (envOf name scope L a cd) E := by passes_own) :
    wpAny (model prog w) (A₀.deeper (envOf name scope L a cd)) (handleBy (.ref e) (envOf name scope L a cd) (.ExceptHandler (some (.Name (Str.ofString "ValueError") np)) none (b₀ :: suite) pos :: rest)) Q E s := by
  have h1 : isSubtype (.type "ValueError") (.type "BaseException") = pure true := by rw [isSubtype_type]; kernel_rfl
  have h2 : isSubtype (.type ((Manifest.find? "ValueError").elim "type" fun y => y.metatype)) (.type "tuple") = pure false := by rw [isSubtype_type]; kernel_rfl
  have h3 : isSubtype (.type "ValueError") (.type "ValueError") = pure true := by rw [isSubtype_type]; kernel_rfl
  refine wpAny_handleBy_builtin (X := "ValueError") (T := "ValueError") (b := true) h1 h2 h3 (name_B H.held.fr X (topRead_of T) ex PyProof.Rows.Boot.«ValueError» (by decide) ⟨rfl, H.isA, ?_⟩ hk hx (by decide))
  exact H.lands fun h' F' N' => wpAny_passesOwnAt hE (k h' F' N')
end
local macro_rules | `(tactic| walk_at "my enterT") => `(tactic| k_dflt (refine' TLgL.code_def ?k2 ?k3 ?k4 ?k5 ?kA ?k6 ?k7 ?k8 ?k9 ?kB ?_ ?cK ?c2 ?c3 ?c4 ?c5; (case kA => exact rfl); (case k2 => k_asm); (case k3 => k_asm); (case k4 => k_asm); (case k5 => k_asm); (case k6 => k_is); (case k7 => k_is); (case k8 => k_room); (case k9 => first | exact BindsTo.of_eq rfl | exact binds_K (by k_in) rfl (by k_is) rfl rfl rfl); (case kB => exact locs rfl); (case cK => first | exact rfl | assumption); (case c2 => exact rfl); (case c3 => exact rfl); (case c4 => exact rfl); (case c5 => decide); k_whole; intro oL' h' tiC' tiF' tiE' F' N'; (try dsimp only); (replace tiE' := TLgL.allNe_of tiE'); (try simp only [TLg.AllNe, and_true] at tiE'); (try simp only [List.nil_append, List.cons_append] at N')))
local macro_rules | `(tactic| walk_at "eval Name") => `(tactic| (k_here; k_dflt (refine' ld ?k1 ?k2 ?_; (case k1 => k_asm); (case k2 => first | with_reducible assumption | exact (if_pos rfl) | exact (if_neg (by decide +kernel)).trans (by assumption) | exact (if_neg (by decide +kernel)).trans (if_pos rfl) | exact (if_neg (by decide +kernel)).trans ((if_neg (by decide +kernel)).trans (by assumption))); k_whole)))
local macro_rules | `(tactic| walk_at "exec While Name") => `(tactic| ((with_reducible rename StopHere => hM9); (with_reducible show wpAny _ _ (exec (Stmt.While _ _ _ _) _) _ _ _); refine hold ?_))
local macro_rules | `(tactic| walk_at "exec While") => `(tactic| ((with_reducible rename StopHere => hM9); (with_reducible show wpAny _ _ (exec (Stmt.While _ _ _ _) _) _ _ _); refine hold ?_))
local macro_rules | `(tactic| walk_at "truthy ref") => `(tactic| (k_here; (with_reducible show wpAny _ _ (truthy (Value.ref _)) _ _ _); k_dflt (refine' truthy_lst ?kN ?km ?hz ?_; (case kN => assumption); (case km => k_mem); (case hz => assumption)); (try dsimp only)))
local macro_rules | `(tactic| walk_at "WhlIf") => `(tactic| first | (refine' WhlIf.no ?h ?_; (case h => with_reducible assumption)) | (refine' WhlIf.yes ?h ?_; (case h => with_reducible assumption)))
local macro_rules | `(tactic| walk_at "call builtin:list.pop") => `(tactic| (k_here; (with_reducible show wpAny _ _ (call (Value.builtin _) [Value.ref _]) _ _ _); k_dflt (refine' pop_lst ?F ?N ?U ?hz ?_; (case F => k_asm); (case N => assumption); (case U => k_upd); (case hz => assumption)); intro h9 tk9 F9 N9; (try dsimp only)))
local macro_rules | `(tactic| walk_at "getMethod ref") => `(tactic| (k_here; (with_reducible show wpAny _ _ (getMethod (Value.ref _) (PySem.Str.ofString "remove") _) _ _ _); k_dflt (refine' kl_method ?N ?m PySem.F.slot_list_remove PySem.F.type_list_remove ?_; (case N => assumption); (case m => k_mem))))
local macro_rules | `(tactic| k_all) => `(tactic| assumption)
local macro_rules | `(tactic| k_all) => `(tactic| first | assumption | (refine' List.forall_mem_cons.mpr ⟨?a, ?b⟩; (case a => k_ne); (case b => k_all)))
local macro_rules | `(tactic| walk_at "call builtin:list.remove") => `(tactic| (k_here; (with_reducible show wpAny _ _ (call (Value.builtin _) [Value.ref _, Value.str _ _]) _ _ _); k_dflt (first
 | (refine' remove_hit ?F ?hv ?hj ?h1 ?h2 ?hsz ?N ?U ?_; (case F => k_asm); (case N => assumption); (case U => k_upd); (case hv => assumption); (case hj => assumption); (case h1 => assumption); (case h2 => assumption); (case hsz => assumption); intro h9 F9 N9; (try dsimp only))
 | (refine' remove_miss ?hh ?hv ?hm ?N ?hD ?_; (case hh => rfl); (case N => assumption); (case hD => k_mem); (case hv => assumption); (case hm => assumption)))))
theorem allLt_mem {d : Addr} : ∀ {l : List (Addr × Obj)}, AllLt d l → ∀ p ∈ l, p.1 < d
  | [], _, _, hp => nomatch hp
  | _ :: _, h, p, hp => by
    rcases List.mem_cons.mp hp with rfl | hp
    · exact h.1
    · exact allLt_mem h.2 p hp
section
variable {w : World} {p0 : Program} {lo0 : List Str} {mean : ExcName → Option Value} {mg mb : Str → Option Value} {dp un : Nat} {gd : Option (List Code)} {cn : Str} {cs : Scope} {a : Addr} {ccd : Value} {base h₀ : Heap} {L : Addr} {m : Str → Option Value} {s : Shared} {Q E : Value → Shared → Prop}
  {e b : Nat} {ve va : List Value} {es as : List Str} {ne na : Nat} {rest : List (Addr × Obj)}
/-- the loop's state: what is still to be popped, the second list, the missing -/
def UldI (w : World) (h₀ : Heap) (L L' : Addr) (oL : Obj) (env : Env) (e b mm : Nat) (rest : List (Addr × Obj)) (s : Shared) (R : List Str × List Str) (i : List Str × List Str × List Str) (s' : Shared) : Prop :=
  ∃ h' tk sl ps qs rs ne na nm m', s' = { s with heap := h', toks := tk } ∧ R = (i.2.2 ++ (uld i.1.reverse i.2.1).1, (uld i.1.reverse i.2.1).2) ∧ StrsAre ps i.1 ∧ StrsAre qs i.2.1 ∧ StrsAre rs i.2.2 ∧ i.1.length ≤ 50000 ∧ i.2.1.length ≤ 50000 ∧ i.1.length + i.2.2.length ≤ 50000 ∧
    Fr h₀ L' h' m' ∧ m' (Str.ofString "expected") = some (.ref e) ∧ m' (Str.ofString "actual") = some (.ref b) ∧ m' (Str.ofString "missing") = some (.ref mm) ∧ TI.Frs [env] [(L, { oL with slots := sl })] ∧
    News h₀ L' h' ((mm, listOf rs.toArray nm) :: (e, listOf ps.toArray ne) :: (b, listOf qs.toArray na) :: (rest ++ [(L, { oL with slots := sl })]))
set_option maxHeartbeats 300000 in
theorem uld_spec (F : Fr h₀ L s.heap m) (X : (hd.heap_39 w.params).In h₀) (T : Top p0 lo0 mean mg mb h₀) (hk : cs.kind = .function) (hdp : dp + 30 < recursionLimit) (hun : un + 100 < cLine)
  (N : News h₀ L s.heap ((e, listOf ve.toArray ne) :: (b, listOf va.toArray na) :: rest)) (he : StrsAre ve es) (ha : StrsAre va as) (heb : e ≠ b) (hre : ∀ q ∈ rest, q.1 ≠ e) (hrb : ∀ q ∈ rest, q.1 ≠ b) (hle : es.length ≤ 50000) (hla : as.length ≤ 50000)
  (hret : ∀ (t mm : Nat) h' tk vm vb nm nb ne, Fr h₀ L h' m → News h₀ L h' ((t, { cls := .type "tuple", data := .seq #[.ref mm, .ref b] }) :: (mm, listOf vm nm) :: (e, listOf #[] ne) :: (b, listOf vb nb) :: rest) → (∀ q ∈ (e, listOf #[] ne) :: (b, listOf vb nb) :: rest, q.1 < mm) → mm < t → StrsAre vm.toList (uld es.reverse as).1 → StrsAre vb.toList (uld es.reverse as).2 → Q (.ref t) { s with heap := h', toks := tk }) :
  wpAny (model PySem.Challenge.rw_il0144_01.row.prog w) (ktrTop dp un gd cn cs L a ccd [] []) (call (.ref 51) [.ref e, .ref b]) Q E s := by
  revert X; k_fill; intro X
  refine wpAny_call ?_
  walk_at "my enterT"
  have hSt := StopHere.mk
  k_steps
  unfold Hold
  rename_i oL h1 C1 Fs1 aN hSt mm h2 lmm h3 F2 N2
  have hrL := allLt_mem lmm.2.2
  obtain ⟨m2, F2', hme, hma, hmm⟩ : ∃ m2, Fr h₀ s.heap.objs.size h3 m2 ∧ m2 (Str.ofString "expected") = some (.ref e) ∧ m2 (Str.ofString "actual") = some (.ref b) ∧ m2 (Str.ofString "missing") = some (.ref mm) := ⟨_, F2, rfl, rfl, rfl⟩
  obtain ⟨heL, hbL, hrN⟩ := aN
  have le1 : e < mm := lmm.1
  have le2 : b < mm := lmm.2.1
  have leL : L < mm := hrL (L, oL) (by simp)
  refine whl_ind (I := UldI w h₀ L s.heap.objs.size oL (envOf cn cs L a ccd) e b mm rest s (uld es.reverse as)) (μ := fun i => i.1.length) ?_ (by passes_own) (es, as, []) ?_
  rotate_left 1
  · exact ⟨h3, tk, oL.slots, ve, va, [], ne, na, _, m2, rfl, by simp, he, ha, .nil, hle, hla, by simpa using hle, F2', hme, hma, hmm, Fs1, N2⟩
  clear F2 N2 F2' hme hma hmm m2 Fs1
  rintro ⟨us, act, ms⟩ s' ⟨h', tk, sl, ps, qs, rs, ne, na, nm, m', rfl, hR, hps, hqs, hrs, l1, l2, l3, F', hme, hma, hmm, Fs', N'⟩
  dsimp only at hR hps hqs hrs l1 l2 l3
  have hx1 : ∀ q ∈ rest ++ [(L, { oL with slots := sl })], q.1 ≠ mm := fun q hq => by
    rcases List.mem_append.mp hq with hq | hq
    · exact Nat.ne_of_lt (hrL q (List.mem_append_left _ hq))
    · rcases List.mem_singleton.mp hq with rfl
      exact Nat.ne_of_lt leL
  have hx2 : ∀ q ∈ rest ++ [(L, { oL with slots := sl })], q.1 ≠ e := fun q hq => by
    rcases List.mem_append.mp hq with hq | hq
    · exact hre q hq
    · rcases List.mem_singleton.mp hq with rfl
      exact Ne.symm heL
  have hx3 : ∀ q ∈ rest ++ [(L, { oL with slots := sl })], q.1 ≠ b := fun q hq => by
    rcases List.mem_append.mp hq with hq | hq
    · exact hrb q hq
    · rcases List.mem_singleton.mp hq with rfl
      exact Ne.symm hbL
  by_cases hus : us = []
  · subst hus
    cases hps
    have hz : (!([] : List Value).isEmpty) = false := rfl
    have hz2 : ([] : List Value).length ≤ 100000 := Nat.zero_le _
    k_steps
    rename_i D9 h9 F9 N9 l9
    obtain ⟨l91, l92, l93, l94⟩ := l9
    have lLD : L < D9 := allLt_mem l94 (L, { oL with slots := sl }) (by simp)
    refine TLg.leave_back (new := (D9, _) :: (mm, listOf rs.toArray nm) :: (e, listOf #[] ne) :: (b, listOf qs.toArray na) :: rest) C1 F9 N9 ⟨Ne.symm (Nat.ne_of_lt lLD), Ne.symm (Nat.ne_of_lt leL), heL, hbL, hrN⟩ fun FL NL => ?_
    have hu : uld ([] : List Str).reverse act = ([], act) := rfl
    rw [hu] at hR
    rw [hR, List.append_nil] at hret
    refine hret D9 mm _ _ _ _ _ _ _ FL NL ?_ l91 hrs hqs
    intro q hq
    rcases List.mem_cons.mp hq with rfl | hq
    · exact le1
    · rcases List.mem_cons.mp hq with rfl | hq
      · exact le2
      · exact hrL q (List.mem_append_left _ hq)
  · obtain ⟨ps', us', x, t, rfl, rfl, hps'⟩ := strs_last hps hus
    have hz : (!(ps' ++ [Value.str x t]).isEmpty) = true := by simp
    have hlp := hps'.length
    have hz2 : (ps' ++ [Value.str x t]).length ≤ 100000 := by simp at l1 ⊢; omega
    have hz3 : ps'.length ≤ 100000 := by simp at l1; omega
    have hql : qs.length ≤ 100000 := by rw [hqs.length]; omega
    by_cases hx : x ∈ act
    · obtain ⟨j, hj, hj1, hj2, hq'⟩ := strs_erase hqs hx
      k_steps
      have hu : uld (us' ++ [x]).reverse act = uld us'.reverse (act.erase x) := by
        rw [List.reverse_append]
        show uld (x :: us'.reverse) act = _
        rw [uld, if_pos hx]
      rw [hu] at hR
      have hle := List.length_erase_le (a := x) (l := act)
      simp only [List.length_append, List.length_cons, List.length_nil] at l1 l3
      refine ⟨(us', act.erase x, ms), by simp, _, _, sl, ps', qs.eraseIdx j, rs, _, _, nm, _, rfl, hR, hps', hq', hrs, by simp only; omega, by simp only; omega, by simp only; omega, by assumption, ?_, ?_, ?_, Fs', by assumption⟩
      · exact (if_neg (by decide +kernel)).trans hme
      · exact (if_neg (by decide +kernel)).trans hma
      · exact (if_neg (by decide +kernel)).trans hmm
    · k_steps
      rename_i h5 tk5 h6 F6 N6 h7 tk7 e7 X7
      refine TLg.noted_new1 (new := (mm, listOf rs.toArray nm) :: (e, listOf ps'.toArray (ne + 1)) :: (b, listOf qs.toArray na) :: rest) rfl Fs' X7 F6 N6 ⟨Ne.symm (Nat.ne_of_lt leL), heL, hbL, hrN⟩ fun h8 sl8 Fs8 H8 => ?_
      refine TT.HeldNA.land H8 fun h9 H9 => ?_
      refine clause_VE H9 X T (by k_is) fun h10 F10 N10 => ?_
      have hx4 : ∀ q ∈ rest ++ [(L, { oL with slots := sl8 })], q.1 ≠ mm := fun q hq => by
        rcases List.mem_append.mp hq with hq | hq
        · exact Nat.ne_of_lt (hrL q (List.mem_append_left _ hq))
        · rcases List.mem_singleton.mp hq with rfl
          exact Nat.ne_of_lt leL
      clear H8 H9 X7 N6 F6
      k_steps
      have hu : uld (us' ++ [x]).reverse act = (x :: (uld us'.reverse act).1, (uld us'.reverse act).2) := by
        rw [List.reverse_append]
        show uld (x :: us'.reverse) act = _
        rw [uld, if_neg hx]
      rw [hu] at hR
      simp only [List.length_append, List.length_cons, List.length_nil] at l1 l3
      have ep : rs.toArray.push (Value.str x t) = (rs ++ [Value.str x t]).toArray := by simp
      rename_i h11 F11 N11
      rw [ep] at N11
      refine ⟨(us', act, ms ++ [x]), by simp, _, _, sl8, ps', qs, rs ++ [Value.str x t], _, _, _, _, rfl, by rw [hR, List.append_assoc]; rfl, hps', hqs, strs_snoc hrs, by simp only; omega, by simp only; omega, by simp only [List.length_append, List.length_cons, List.length_nil]; omega, F11, ?_, ?_, ?_, Fs8, N11⟩
      · exact (if_neg (by decide +kernel)).trans hme
      · exact (if_neg (by decide +kernel)).trans hma
      · exact (if_neg (by decide +kernel)).trans hmm
end
end S6
section
variable {prog : Program} {w : World} {A : Around} {E : Value → Shared → Prop} {s : Shared} {env : Env} {Q : Flow → Shared → Prop} {ι : Type}
/-- what one turn of a for loop asks, after the iterator's answer -/
def ForTurn (prog : Program) (w : World) (A : Around) (E : Value → Shared → Prop) (env : Env) (v : Str) (body : List Stmt) (Q : Flow → Shared → Prop) (I : ι → Shared → Prop) (μ : ι → Nat) (i : ι) (r : Option Value) (s₁ : Shared) : Prop := match r with
  | none => Q .next s₁
  | some y => wpAny (model prog w) A (storeName env v y) (fun _ s₂ => wpAny (model prog w) A (execs body env) (WhlFlow Q I μ i) E s₂) E s₁
def ForStart (I : ι → Shared → Prop) (adr : ι → Addr) (it : Value) (s₂ : Shared) : Prop := ∃ i, it = .ref (adr i) ∧ I i s₂
theorem for_ind (I : ι → Shared → Prop) (μ : ι → Nat) (J : Addr) {v : Str} {px : Pos} {body : List Stmt}
    (turn : ∀ i s, I i s → wpAny (model prog w) A (pyNext (.ref J)) (ForTurn prog w A E env v body Q I μ i) E s)
    (hE : PassesOwn (model prog w) A env E) (i : ι) (h : I i s) :
    codeAny (model prog w) A (.forLoop (.Name v px) (.ref J) body [] env) (fun r s' => match r with | .ok f => Q f s' | .error e => cameBackBy (model prog w) A env E e s') s := by
  refine codeAny_forLoop (R := fun r s' => match r with | .ok f => Q f s' | .error e => cameBackBy (model prog w) A env E e s') (fun k s' => ∃ i, μ i = k ∧ I i s') ?_ (μ i) ⟨i, rfl, h⟩
  rintro k s' ⟨i, rfl, hi⟩
  refine wpAny_passesOwn hE (wpAny_mono (turn i s' hi) (fun r s₁ hr => ?_) fun _ _ z => z)
  cases r with
  | none => exact wpAny_execs_nil hr
  | some y =>
    refine wpAny_passesOwn hE (wpAny_assign_Name (wpAny_mono hr (fun _ s₂ h₂ => ?_) fun _ _ z => z))
    refine wpAny_passesOwn hE (wpAny_mono h₂ (fun f s₃ h₃ => ?_) fun _ _ z => z)
    cases f with
    | next =>
      obtain ⟨j, hj, hI⟩ := h₃
      exact ⟨μ j, hj, j, rfl, hI⟩
    | cont =>
      obtain ⟨j, hj, hI⟩ := h₃
      exact ⟨μ j, hj, j, rfl, hI⟩
    | brk => exact h₃
    | ret _ => exact h₃
end
section
variable {prog : Program} {w : World} {A : Around} {E : Value → Shared → Prop} {s : Shared} {env : Env} {Q : Flow → Shared → Prop}
/-- a for statement: the iterable, its iterator, then the loop (for_ind) -/
def ForAt (prog : Program) (w : World) (A : Around) (E : Value → Shared → Prop) (env : Env) (v : Str) (px : Pos) (body : List Stmt) (Q : Flow → Shared → Prop) (it : Value) (s₂ : Shared) : Prop :=
  ∃ J, it = .ref J ∧ codeAny (model prog w) A (.forLoop (.Name v px) (.ref J) body [] env) (fun r s' => match r with | .ok f => Q f s' | .error e => cameBackBy (model prog w) A env E e s') s₂
theorem for_start {v : Str} {px pos : Pos} {iter : Expr} {body : List Stmt}
    (h : wpAny (model prog w) A (eval iter env) (fun xv s₁ => wpAny (model prog w) A (pyIter xv) (ForAt prog w A E env v px body Q) E s₁) E s)
    (hs : ∀ x, foldedSetIterable iter env x = pure x := by intro _; rfl) :
    wpAny (model prog w) A (exec (.For (.Name v px) iter body [] pos) env) Q E s := by
  refine wpAny_For (wpAny_mono h (fun xv s₁ h₁ => wpAny_mono h₁ (fun it s₂ h₂ => ?_) fun _ _ z => z) fun _ _ z => z) hs
  obtain ⟨J, rfl, h₂⟩ := h₂
  exact h₂
end
section
variable {prog : Program} {w : World} {A : Around} {E : Value → Shared → Prop} {s : Shared} {h₀ : Heap} {L D : Addr} {news : List (Addr × Obj)} {Q : Value → Shared → Prop}
theorem len_lst {vs : List Value} {n : Nat} (N : News h₀ L s.heap news) (hm : (D, listOf vs.toArray n) ∈ news) (hsz : vs.length ≤ 100000) (h : Q (.int (vs.length : Nat) (s.toks + 1)) { s with toks := s.toks + 1 + 1 }) :
    wpAny (model prog w) A (call (.builtin "len") [.ref D]) Q E s := by
  refine call_len_list (N.isList hm) (by simp; omega) ?_
  have e : ((vs.toArray.size : Nat) : Int) = ((vs.length : Nat) : Int) := by simp
  rw [e]
  exact h
theorem count_lst {vs : List Value} {ws : List Str} {n : Nat} {x : Str} {t : Tok} (N : News h₀ L s.heap news) (hm : (D, listOf vs.toArray n) ∈ news) (hv : StrsAre vs ws)
    (h : Q (.int (PySem.Spec.countIn (.str x) (ws.map PyData.str)) s.toks) { s with toks := s.toks + 1 }) : wpAny (model prog w) A (call (.builtin "list.count") [.ref D, .str x t]) Q E s :=
  count_list_strs (N.isList hm) hv h
end
/-- one place of _law_lacking, of _law_over -/
def lkAt (some others : List Str) (k : Nat) : List Str := if (some.drop k).count (some.getD k (Str.ofString "")) > others.count (some.getD k (Str.ofString "")) then [some.getD k (Str.ofString "")] else []
def ovAt (some others : List Str) (k : Nat) : List Str := if (some.take (k + 1)).count (some.getD k (Str.ofString "")) > others.count (some.getD k (Str.ofString "")) then [some.getD k (Str.ofString "")] else []
def lackTo (some others : List Str) (i : Nat) : List Str := (List.range i).flatMap fun j => lkAt some others (some.length - 1 - j)
def overTo (some others : List Str) (i : Nat) : List Str := (List.range i).flatMap (ovAt some others)
/-- the same by going down the list -/
def ovL (others : List Str) : List Str → List Str → List Str
  | _, [] => []
  | pre, x :: r => (if (pre ++ [x]).count x > others.count x then [x] else []) ++ ovL others (pre ++ [x]) r
theorem range_flat (f : Nat → List Str) : ∀ n, (List.range (n + 1)).flatMap f = f 0 ++ (List.range n).flatMap (fun j => f (j + 1)) := by
  intro n
  rw [List.range_succ_eq_map, List.flatMap_cons, List.flatMap_map]
theorem ovL_to (others : List Str) : ∀ (l pre : List Str), ovL others pre l = (List.range l.length).flatMap fun j => ovAt (pre ++ l) others (pre.length + j)
  | [], _ => rfl
  | x :: r, pre => by
    rw [ovL, ovL_to others r (pre ++ [x])]
    show _ = (List.range (r.length + 1)).flatMap _
    rw [range_flat]
    have e1 : ovAt (pre ++ x :: r) others (pre.length + 0) = if (pre ++ [x]).count x > others.count x then [x] else [] := by
      unfold ovAt
      have h1 : (pre ++ x :: r).getD (pre.length + 0) (Str.ofString "") = x := by simp
      have h2 : (pre ++ x :: r).take (pre.length + 0 + 1) = pre ++ [x] := by
        rw [Nat.add_zero, List.take_append, List.take_of_length_le (Nat.le_succ _), Nat.add_sub_cancel_left]
        rfl
      rw [h1, h2]
    rw [e1]
    congr 1
    congr 1
    funext j
    have h1 : pre ++ [x] ++ r = pre ++ x :: r := by simp
    rw [h1]
    congr 1
    simp only [List.length_append, List.length_cons, List.length_nil]
    omega
theorem over_all (some others : List Str) : overTo some others some.length = ovL others [] some := by
  rw [ovL_to]
  unfold overTo
  congr 1
  funext j
  rw [List.nil_append, List.length_nil, Nat.zero_add]
theorem lack_all (some others : List Str) : lackTo some others some.length = ovL others [] some.reverse := by
  rw [ovL_to, List.length_reverse]
  unfold lackTo
  have key : ∀ (f g : Nat → List Str) (n : Nat), (∀ j, j < n → f j = g j) → (List.range n).flatMap f = (List.range n).flatMap g := by
    intro f g n h
    rw [List.flatMap_def, List.flatMap_def]
    congr 1
    exact List.map_congr_left fun j hj => h j (List.mem_range.mp hj)
  refine key _ _ _ fun j hj => ?_
  rw [List.nil_append, List.length_nil, Nat.zero_add]
  unfold lkAt ovAt
  have h1 : some.reverse.getD j (Str.ofString "") = some.getD (some.length - 1 - j) (Str.ofString "") := by
    rw [List.getD_eq_getElem?_getD, List.getD_eq_getElem?_getD, List.getElem?_reverse hj]
  have h2 : (some.reverse.take (j + 1)).count (some.getD (some.length - 1 - j) (Str.ofString "")) = (some.drop (some.length - 1 - j)).count (some.getD (some.length - 1 - j) (Str.ofString "")) := by
    rw [List.take_reverse, List.count_reverse]
    congr 2
    omega
  rw [h1, h2]
theorem cnt_snoc (x y : Str) (l : List Str) : (l ++ [x]).count y = l.count y + if x = y then 1 else 0 := by
  rw [List.count_append, List.count_singleton]
  simp [beq_iff_eq]
theorem cnt_cons (x y : Str) (l : List Str) : (x :: l).count y = l.count y + if x = y then 1 else 0 := by
  rw [List.count_cons]
  simp [beq_iff_eq]
theorem cnt_pos {x : Str} {l : List Str} : x ∈ l ↔ 0 < l.count x := List.count_pos_iff.symm
theorem uld_fst : ∀ (xs act pre all : List Str), (∀ y, act.count y = all.count y - pre.count y) → (uld xs act).1 = ovL all pre xs
  | [], _, _, _, _ => rfl
  | x :: xs, act, pre, all, h => by
    rw [uld, ovL]
    have hx := h x
    by_cases hm : x ∈ act
    · rw [if_pos hm]
      have h0 := cnt_pos.mp hm
      have h1 : ¬ (pre ++ [x]).count x > all.count x := by
        rw [cnt_snoc, if_pos rfl]
        omega
      rw [if_neg h1, List.nil_append]
      refine uld_fst xs _ _ all fun y => ?_
      rw [cnt_snoc, List.count_erase]
      have hy := h y
      by_cases hxy : x = y
      · subst hxy
        simp only [beq_self_eq_true, if_true]
        omega
      · rw [if_neg hxy, if_neg (by simpa using hxy)]
        omega
    · rw [if_neg hm]
      have h0 : act.count x = 0 := List.count_eq_zero.mpr hm
      have h1 : (pre ++ [x]).count x > all.count x := by
        rw [cnt_snoc, if_pos rfl]
        omega
      rw [if_pos h1]
      show x :: (uld xs act).1 = x :: ovL all (pre ++ [x]) xs
      rw [uld_fst xs act (pre ++ [x]) all fun y => ?_]
      rw [cnt_snoc]
      have hy := h y
      by_cases hxy : x = y
      · subst hxy
        omega
      · rw [if_neg hxy]
        omega
/-- only the counts of the signs that come matter -/
theorem ovL_congr : ∀ (l p q a b : List Str), (∀ y ∈ l, p.count y + b.count y = q.count y + a.count y) → ovL a p l = ovL b q l
  | [], _, _, _, _, _ => rfl
  | x :: r, p, q, a, b, h => by
    rw [ovL, ovL]
    have hx := h x List.mem_cons_self
    have e : ((p ++ [x]).count x > a.count x) ↔ ((q ++ [x]).count x > b.count x) := by
      rw [cnt_snoc, cnt_snoc]
      omega
    rw [ovL_congr r (p ++ [x]) (q ++ [x]) a b fun y hy => ?_]
    · by_cases hc : (p ++ [x]).count x > a.count x
      · rw [if_pos hc, if_pos (e.mp hc)]
      · rw [if_neg hc, if_neg (fun k => hc (e.mpr k))]
    · rw [cnt_snoc, cnt_snoc]
      have := h y (List.mem_cons_of_mem _ hy)
      omega
theorem ovL_erase (x : Str) (xs : List Str) : ∀ (act pre : List Str), x ∉ pre → x ∈ act → ovL (x :: xs) pre act = ovL xs pre (act.erase x)
  | [], _, _, h => nomatch h
  | y :: r, pre, hp, h => by
    have h0 : pre.count x = 0 := List.count_eq_zero.mpr hp
    by_cases hxy : y = x
    · subst hxy
      rw [List.erase_cons_head, ovL]
      have h1 : ¬ (pre ++ [y]).count y > (y :: xs).count y := by
        rw [cnt_snoc, cnt_cons, if_pos rfl]
        omega
      rw [if_neg h1, List.nil_append]
      refine ovL_congr r _ _ _ _ fun z _ => ?_
      rw [cnt_snoc, cnt_cons]
      omega
    · have e : (y :: r).erase x = y :: r.erase x := List.erase_cons_tail (by simpa using hxy)
      rw [e, ovL, ovL]
      have h1 : (x :: xs).count y = xs.count y := by
        rw [cnt_cons, if_neg (fun e => hxy e.symm), Nat.add_zero]
      rw [h1, ovL_erase x xs r (pre ++ [y]) (fun hm => by
        rcases List.mem_append.mp hm with hm | hm
        · exact hp hm
        · exact hxy (List.mem_singleton.mp hm).symm) (by
        rcases List.mem_cons.mp h with e | e
        · exact absurd e.symm hxy
        · exact e)]
theorem ovL_nil : ∀ (act pre : List Str), ovL [] pre act = act
  | [], _ => rfl
  | x :: r, pre => by
    rw [ovL, ovL_nil r, if_pos]
    · rfl
    · rw [cnt_snoc, if_pos rfl, List.count_nil]
      omega
theorem uld_snd : ∀ (xs act : List Str), (uld xs act).2 = ovL xs [] act
  | [], act => (ovL_nil act []).symm
  | x :: xs, act => by
    rw [uld]
    by_cases hm : x ∈ act
    · rw [if_pos hm, uld_snd xs, ovL_erase x xs act [] (by simp) hm]
    · rw [if_neg hm]
      show (uld xs act).2 = _
      rw [uld_snd xs act]
      refine ovL_congr act _ _ _ _ fun y hy => ?_
      have hxy : ¬ x = y := fun e => hm (e ▸ hy)
      rw [cnt_cons, if_neg hxy]
      omega
theorem uld_law (es as : List Str) : uld es.reverse as = (lackTo es as es.length, overTo as es as.length) := by
  have h1 := uld_fst es.reverse as [] as (fun y => by rw [List.count_nil]; omega)
  have h2 := uld_snd es.reverse as
  rw [lack_all, over_all, ← h1]
  have h3 : ovL es [] as = ovL es.reverse [] as := ovL_congr as _ _ _ _ fun y _ => by rw [List.count_reverse]
  rw [h3, ← h2]
theorem strs_drop : ∀ {vs : List Value} {ws : List Str} (n : Nat), StrsAre vs ws → StrsAre (vs.drop n) (ws.drop n)
  | _, _, 0, h => h
  | _, _, _ + 1, .nil => .nil
  | _, _, n + 1, .cons _ _ h => strs_drop n h
theorem strs_take : ∀ {vs : List Value} {ws : List Str} (n : Nat), StrsAre vs ws → StrsAre (vs.take n) (ws.take n)
  | _, _, 0, _ => .nil
  | _, _, _ + 1, .nil => .nil
  | _, _, n + 1, .cons _ _ h => .cons _ _ (strs_take n h)
theorem strs_at : ∀ {vs : List Value} {ws : List Str} (n : Nat), StrsAre vs ws → n < ws.length → ∃ t, vs[n]? = some (.str (ws.getD n (Str.ofString "")) t)
  | _, _, _, .nil, h => by simp at h
  | _, _, 0, .cons y t _, _ => ⟨t, rfl⟩
  | _, _, n + 1, .cons _ _ r, h => by
    obtain ⟨t, e⟩ := strs_at n r (by simpa using h)
    exact ⟨t, by simpa using e⟩
theorem strs_app : ∀ {vs us : List Value} {ws xs : List Str}, StrsAre vs ws → StrsAre us xs → StrsAre (vs ++ us) (ws ++ xs)
  | _, _, _, _, .nil, h => h
  | _, _, _, _, .cons y t r, h => .cons y t (strs_app r h)
abbrev rangeO (x left step : Int) : Obj := { cls := .type "range_iterator", dict := none, data := .fields #[rawInt x, rawInt left, rawInt step], slots := #[] }
section
variable {prog : Program} {w : World} {A : Around} {E : Value → Shared → Prop} {s : Shared} {h₀ : Heap} {L D : Addr} {m : Str → Option Value} {news : List (Addr × Obj)}
theorem item_lst {value slice : PySem.Expr} {vs : List Value} {n : Nat} {k : Int} {u : Tok} {j : Nat} {v : Value} {Q : Value → Shared → Prop} (N : News h₀ L s.heap news) (hm : (D, listOf vs.toArray n) ∈ news) (hk : k = (j : Int)) (hj : j ≤ 100000) (hx : vs[j]? = some v) (h : Q v s)
    (hs : subscripted slice false (.ref D) (.int k u) = operate [.ref D, .int k u] (getItem (.ref D) (.int k u)) := by with_unfolding_all rfl) : wpAny (model prog w) A (subscriptTail value slice (.ref D) (.int k u)) Q E s := by
  subst hk
  have hl := N.isList hm
  exact tail_any hl.typeIs slot_list_getitem.lookup (wpAny_getItem_list hl (by omega) (by omega) (by simpa using hx) h) hs
theorem slice_from {value slice : PySem.Expr} {vs : List Value} {n : Nat} {k : Int} {u : Tok} {j : Nat} {Q : Value → Shared → Prop} (F : Fr h₀ L s.heap m) (N : News h₀ L s.heap news) (hm : (D, listOf vs.toArray n) ∈ news) (hk : k = (j : Int)) (hz : vs.length ≤ 100000)
    (h : ∀ (D' : Nat) h', Fr h₀ L h' m → News h₀ L h' ((D', listOf (vs.drop j).toArray 0) :: news) → (∀ p ∈ news, p.1 < D') → Q (.ref D') { s with heap := h' })
    (hs : subscripted slice false (.ref D) (.ref s.heap.objs.size) = operate [.ref s.heap.objs.size, .ref D] (getItem (.ref D) (.ref s.heap.objs.size))) (ht : ∀ r, letTemporaryGo value (.ref D) r = pure ()) :
    wpAny (model prog w) A (subscriptTail value slice (.ref D) (.ref s.heap.objs.size)) Q E { s with heap := s.heap.push { cls := .type "slice", data := .fields #[.int k u, .none, .none] } } := by
  have hl : sizeLine = 16777216 := rfl
  refine kmk_slice F N (N.isList hm) (.int k u) .none (fun D' h' F' N' l => h D' h' F' ?_ l) hs ht (by simp; omega)
  have e : sliceBounds (some k) none none vs.toArray.size = (((min j vs.toArray.size : Nat) : Int), ((vs.toArray.size : Nat) : Int), 1) := by
    simp only [sliceBounds, Option.getD_none, show (1 : Int) > 0 by decide, if_true, if_neg (show ¬ (k < 0) by omega)]
    congr 1
    omega
  rw [kmk_pick_nat _ e] at N'
  have e2 : (vs.toArray.toList.drop (min j vs.toArray.size)).take (vs.toArray.size - min j vs.toArray.size) = vs.drop j := by
    show (vs.drop _).take _ = _
    rw [List.size_toArray, kmk_drop_min, List.take_of_length_le (by rw [List.length_drop]; omega)]
  rw [e2] at N'
  exact N'
theorem slice_upto {value slice : PySem.Expr} {vs : List Value} {n : Nat} {k : Int} {u : Tok} {j : Nat} {Q : Value → Shared → Prop} (F : Fr h₀ L s.heap m) (N : News h₀ L s.heap news) (hm : (D, listOf vs.toArray n) ∈ news) (hk : k = (j : Int)) (hz : vs.length ≤ 100000)
    (h : ∀ (D' : Nat) h', Fr h₀ L h' m → News h₀ L h' ((D', listOf (vs.take j).toArray 0) :: news) → (∀ p ∈ news, p.1 < D') → Q (.ref D') { s with heap := h' })
    (hs : subscripted slice false (.ref D) (.ref s.heap.objs.size) = operate [.ref s.heap.objs.size, .ref D] (getItem (.ref D) (.ref s.heap.objs.size))) (ht : ∀ r, letTemporaryGo value (.ref D) r = pure ()) :
    wpAny (model prog w) A (subscriptTail value slice (.ref D) (.ref s.heap.objs.size)) Q E { s with heap := s.heap.push { cls := .type "slice", data := .fields #[.none, .int k u, .none] } } := by
  have hl : sizeLine = 16777216 := rfl
  refine kmk_slice F N (N.isList hm) .none (.int k u) (fun D' h' F' N' l => h D' h' F' ?_ l) hs ht (by simp; omega)
  have e : sliceBounds none (some k) none vs.toArray.size = (((0 : Nat) : Int), ((min j vs.toArray.size : Nat) : Int), 1) := by
    simp only [sliceBounds, Option.getD_none, show (1 : Int) > 0 by decide, if_true, if_neg (show ¬ (k < 0) by omega)]
    congr 1
    congr 1
    omega
  rw [kmk_pick_nat _ e] at N'
  have e2 : (vs.toArray.toList.drop 0).take (min j vs.toArray.size - 0) = vs.take j := by
    show (vs.drop 0).take _ = _
    rw [List.drop_zero, Nat.sub_zero, List.size_toArray, kmk_take_min]
  rw [e2] at N'
  exact N'
theorem next_range {x left step : Int} {J : Addr} {Q : Option Value → Shared → Prop} (F : Fr h₀ L s.heap m) (N : News h₀ L s.heap ((J, rangeO x left step) :: news)) (hJ : ∀ p ∈ news, p.1 ≠ J) (hl : 0 < left)
    (h : ∀ h', Fr h₀ L h' m → News h₀ L h' ((J, rangeO (x + step) (left - 1) step) :: news) → Q (some (.int x s.toks)) { s with heap := h', toks := s.toks + 1 }) : wpAny (model prog w) A (pyNext (.ref J)) Q E s := by
  have z := N _ (.head _)
  refine wpAny_pyNext_range_item z.1 hl fun h' hi hs => h h' (F.change hs z.2.1 z.2.2) ?_
  exact news_set (pre := []) N (fun _ hq => nomatch hq) hJ hs hi
theorem next_range_end {x left step : Int} {J : Addr} {Q : Option Value → Shared → Prop} (hh : A.handled = none) (F : Fr h₀ L s.heap m) (N : News h₀ L s.heap ((J, rangeO x left step) :: news)) (hJ : ∀ p ∈ news, p.1 ≠ J) (hl : left ≤ 0)
    (h : ∀ h', Fr h₀ L h' m → News h₀ L h' news → Q none { s with heap := h' }) : wpAny (model prog w) A (pyNext (.ref J)) Q E s := by
  have z := N _ (.head _)
  refine wpAny_pyNext_range_end hh z.1 hl fun h' he => h h' ⟨F.ns.extBut he (Ne.symm z.2.1), fun b o e => he b o (fun eb => ?_) (F.keep b o e), F.above⟩ fun q hq => ?_
  · rw [eb] at e
    rw [z.2.2] at e
    cases e
  · exact ⟨he _ _ (hJ q hq) (N q (.tail _ hq)).1, (N q (.tail _ hq)).2⟩
theorem iter_range {a b c : Int} {t u v : Tok} {r : Addr} {Q : Value → Shared → Prop} (F : Fr h₀ L s.heap m) (N : News h₀ L s.heap news) (hr : IsRange s.heap r a b c t u v) (hsmall : Builtin.Range.small a b c = true)
    (h : ∀ (J : Nat) h', Fr h₀ L h' m → News h₀ L h' ((J, rangeO a (Builtin.Range.rangeSize a b c) c) :: news) → (∀ p ∈ news, p.1 < J) → Q (.ref J) { s with heap := h' }) : wpAny (model prog w) A (pyIter (.ref r)) Q E s :=
  wpAny_pyIter_range hr hsmall (h _ _ (F.push _) (N.push F _) fun p hp => Heap.lt_size (N p hp).1)
end
theorem cnt_is (x : Str) : ∀ ws : List Str, PySem.Spec.countIn (.str x) (ws.map PyData.str) = ((ws.count x : Nat) : Int)
  | [] => rfl
  | y :: r => by
    show (if PySem.Spec.same (PyData.str y) (PyData.str x) then (1 : Int) else 0) + PySem.Spec.countIn (.str x) (r.map PyData.str) = _
    rw [cnt_is x r, List.count_cons]
    have e : PySem.Spec.same (PyData.str y) (PyData.str x) = (y == x) := by
      first | rfl | simp [PySem.Spec.same]
    rw [e]
    cases (y == x)
    · simp
    · simp
      omega
/-- a text out of its signs -/
def tx (l : List Nat) : Str := Str.mk l.toArray
theorem tx_cps (x : Str) : tx x.cps.toList = x := rfl
theorem cps_tx (l : List Nat) : (tx l).cps.toList = l := rfl
theorem app_tx (x : Str) (l : List Nat) (c : Nat) : x ++ Str.mk #[c] ++ tx l = x ++ tx (c :: l) := by
  apply PySem.Str.ext'
  show (x.cps ++ #[c]) ++ l.toArray = x.cps ++ (c :: l).toArray
  simp
theorem app_nil (x : Str) : x ++ tx [] = x := by
  apply PySem.Str.ext'
  show x.cps ++ #[] = x.cps
  simp
theorem app_cps (x y : Str) : (x ++ y).cps.toList = x.cps.toList ++ y.cps.toList := by
  show (x.cps ++ y.cps).toList = _
  simp
theorem app_assoc (x y z : Str) : x ++ y ++ z = x ++ (y ++ z) := by
  apply PySem.Str.ext'
  show (x.cps ++ y.cps) ++ z.cps = x.cps ++ (y.cps ++ z.cps)
  simp
theorem len_cps (x : Str) : x.length = x.cps.toList.length := by
  show x.cps.size = _
  simp
theorem e_safe : ∀ c ∈ safeL, inS (Str.ofString " \t\r\n") c = false ∧ inS (Str.ofString "'\"") c = false ∧ inS (Str.ofString "\\") c = false ∧ inS (Str.ofString "#") c = false := by decide +kernel
theorem safe_of {c : Nat} (h : safeC c = true) : inS (Str.ofString " \t\r\n") c = false ∧ inS (Str.ofString "'\"") c = false ∧ inS (Str.ofString "\\") c = false ∧ inS (Str.ofString "#") c = false := e_safe c (of_decide_eq_true h)
theorem inS_39 : inS (Str.ofString " \t\r\n") 39 = false ∧ inS (Str.ofString "'\"") 39 = true ∧ inS (Str.ofString "\\") 39 = false ∧ inS (Str.ofString "#") 39 = false := by decide +kernel
theorem inS_34 : inS (Str.ofString " \t\r\n") 34 = false ∧ inS (Str.ofString "'\"") 34 = true ∧ inS (Str.ofString "\\") 34 = false ∧ inS (Str.ofString "#") 34 = false := by decide +kernel
theorem inS_32 : inS (Str.ofString " \t\r\n") 32 = true ∧ inS (Str.ofString "\\") 32 = false ∧ inS (Str.ofString "#") 32 = false := by decide +kernel
/-- the comment signs do not meet what join writes outside the apostrophes -/
def CmOk (cm : Str) : Prop := (∀ c, safeC c = true → inS cm c = false) ∧ inS cm 39 = false ∧ inS cm 34 = false ∧ inS cm 32 = false
theorem cmOk_none : CmOk (Str.ofString "") := ⟨fun c _ => inS_empty c, inS_empty 39, inS_empty 34, inS_empty 32⟩
theorem cmOk_hash : CmOk (Str.ofString "#") := ⟨fun _ h => (safe_of h).2.2.2, inS_39.2.2.2, inS_34.2.2.2, inS_32.2.2⟩
section
variable {px : Bool} {cm : Str} (hcm : CmOk cm)
include hcm
theorem rtk_bare : ∀ (l : List Nat) (tok : Str) (qd : Bool) (r : List Nat), (∀ c ∈ l, safeC c = true) → tok.length > 0 → rtk px cm .a tok qd (l ++ r) = rtk px cm .a (tok ++ tx l) qd r
  | [], tok, qd, r, _, _ => by rw [app_nil]; rfl
  | c :: l, tok, qd, r, h, ht => by
    obtain ⟨h1, h2, h3, _⟩ := safe_of (h c List.mem_cons_self)
    have h4 := hcm.1 c (h c List.mem_cons_self)
    show rtk px cm .a tok qd (c :: (l ++ r)) = _
    rw [rtk]
    have ht' : decide (tok.length > 0) = true := decide_eq_true ht
    simp only [h1, h2, h3, h4, ht', Bool.and_false, Bool.or_false, Bool.true_or, Bool.not_true, Bool.false_eq_true, if_false]
    rw [rtk_bare l _ qd r (fun d hd => h d (List.mem_cons_of_mem _ hd)) (by rw [PySem.Str.length_append]; omega), app_tx]
theorem rtk_end {tok : Str} {qd : Bool} (h : tok.length > 0 ∨ (px = true ∧ qd = true)) (r : List Nat) : rtk px cm .a tok qd (32 :: r) = some (tok, qd, false, r) := by
  unfold rtk
  have h1 : (decide (tok.length > 0) || (px && qd)) = true := by
    rcases h with h | ⟨h, h'⟩
    · simp [h]
    · simp [h, h']
  simp only [hcm.2.2.2, inS_32.1, inS_32.2.1, h1, Bool.and_false, Bool.or_false, Bool.not_true, Bool.false_eq_true, if_false, if_true]
omit hcm in
theorem rtk_q : ∀ (l : List Nat) (tok : Str) (qd : Bool) (r : List Nat), 39 ∉ l → ∃ qd', rtk px cm (.q 39) tok qd (l ++ 39 :: r) = rtk px cm (.q 39) (tok ++ tx l) qd' (39 :: r)
  | [], tok, qd, r, _ => ⟨qd, by rw [app_nil]; rfl⟩
  | c :: l, tok, qd, r, h => by
    have hc : ¬ c = 39 := fun e => h (by rw [e]; exact List.mem_cons_self)
    obtain ⟨qd', ih⟩ := rtk_q l (tok ++ Str.mk #[c]) true r (fun hm => h (List.mem_cons_of_mem _ hm))
    refine ⟨qd', ?_⟩
    rw [← app_tx, ← ih]
    show rtk px cm (.q 39) tok qd (c :: (l ++ 39 :: r)) = _
    rw [rtk]
    rw [if_neg (by simp), if_neg hc]
omit hcm in
theorem rtk_qP (l : List Nat) (tok : Str) (qd : Bool) (r : List Nat) (h : 39 ∉ l) : rtk true cm (.q 39) tok qd (l ++ 39 :: r) = rtk true cm .a (tok ++ tx l) true r := by
  obtain ⟨qd', e⟩ := rtk_q (px := true) (cm := cm) l tok qd r h
  rw [e, rtk]
  rw [if_neg (by simp), if_pos rfl, if_pos rfl]
omit hcm in
theorem rtk_qN (l : List Nat) (tok : Str) (qd : Bool) (r : List Nat) (h : 39 ∉ l) : rtk false cm (.q 39) tok qd (l ++ 39 :: r) = some (tok ++ tx l ++ Str.mk #[39], true, false, r) := by
  obtain ⟨qd', e⟩ := rtk_q (px := false) (cm := cm) l tok qd r h
  rw [e, rtk]
  rw [if_neg (by simp), if_pos rfl, if_neg (by simp)]
/-- an apostrophe between two strands -/
theorem rtk_joint (tok : Str) (r : List Nat) : rtk true cm .a tok true (34 :: 39 :: 34 :: 39 :: r) = rtk true cm (.q 39) (tok ++ Str.mk #[39]) true r := by
  rw [rtk]
  simp only [hcm.2.2.1, inS_34, Bool.and_false, Bool.or_true, Bool.or_false, Bool.and_true, Bool.not_true, Bool.false_eq_true, if_false, if_true]
  rw [rtk]
  simp only [inS_39, Bool.and_false, Bool.or_false, decide_true, Bool.not_true, Bool.false_eq_true, if_false, reduceIte]
  rw [if_neg (by decide), if_neg (by decide), rtk]
  simp only [inS_34, Bool.and_false, Bool.or_false, decide_true, Bool.not_true, Bool.false_eq_true, if_false, if_true]
  rw [if_neg (by decide), rtk]
  simp only [hcm.2.1, inS_39, Bool.and_false, Bool.or_true, Bool.or_false, Bool.and_true, Bool.not_true, Bool.false_eq_true, if_false, if_true]
end
/-- the strands of a text between its apostrophes -/
def strands (x : Str) : List Str := Txt.split x (Str.mk #[39])
def apo (x : Str) : Str := Str.mk #[39] ++ x ++ Str.mk #[39]
def mid : Str := Str.mk #[34, 39, 34]
def bare (x : Str) : Bool := decide (x ≠ Str.ofString "") && x.cps.toList.all safeC
/-- the tokens of a text that is not bare -/
def weave : List Str → List Str
  | [] => []
  | s :: r => apo s :: r.flatMap fun t => [mid, apo t]
def tokOf (x : Str) : List Str := if bare x = true then [x] else weave (strands x)
def toksOf (ws : List Str) : List Str := ws.flatMap tokOf
/-- the signs of a line -/
def lineC : List Str → List Nat
  | [] => []
  | [x] => (quo x).cps.toList
  | x :: y :: r => (quo x).cps.toList ++ 32 :: lineC (y :: r)
theorem line_cps : ∀ ws : List Str, (Txt.join (Str.ofString " ") (ws.map quo)).cps.toList = lineC ws := by
  intro ws
  have e : ∀ ws : List Str, (Str.join (Str.ofString " ") (ws.map quo)).cps.toList = lineC ws := by
    intro ws
    induction ws with
    | nil => rfl
    | cons x r ih =>
      cases r with
      | nil => rfl
      | cons y r =>
        show (quo x ++ Str.ofString " " ++ Str.join (Str.ofString " ") ((y :: r).map quo)).cps.toList = _
        rw [app_cps, app_cps, ih]
        have h : (Str.ofString " ").cps.toList = [32] := by decide +kernel
        rw [h, List.append_assoc]
        rfl
  show (Builtin.Str.glued _ _).cps.toList = _
  rw [StrLaws.glued_eq_join]
  exact e ws
theorem ne_split (x y : Str) : ∃ p r, Txt.split x y = p :: r := by
  unfold Txt.split
  split
  · exact ⟨_, _, rfl⟩
  · split
    · exact ⟨_, _, rfl⟩
    · rw [StrLaws.partsBetween_eq]
      exact StrLaws.partsFrom_ne ..
theorem e39 : Str.ofString "'" = Str.mk #[39] := by decide +kernel
theorem e5 : (Str.ofString "'\"'\"'").cps.toList = [39, 34, 39, 34, 39] := by decide +kernel
theorem eNil : Str.ofString "" = Str.mk #[] := by decide +kernel
/-- what quote writes behind the first apostrophe -/
def body5 : List Str → List Nat
  | [] => []
  | [s] => s.cps.toList ++ [39]
  | s :: t :: r => s.cps.toList ++ 39 :: 34 :: 39 :: 34 :: 39 :: body5 (t :: r)
theorem quoT_cps (x : Str) : (quoT x).cps.toList = 39 :: body5 (strands x) := by
  have h5 : Txt.replace x (Str.ofString "'") (Str.ofString "'\"'\"'") = Str.join (Str.ofString "'\"'\"'") (strands x) := by
    rw [e39]
    exact StrLaws.replace_one x _ 39
  unfold quoT
  rw [h5, app_cps, app_cps, e39]
  have key : ∀ l : List Str, l ≠ [] → (Str.join (Str.ofString "'\"'\"'") l).cps.toList ++ [39] = body5 l := by
    intro l
    induction l with
    | nil => intro h; exact absurd rfl h
    | cons s r ih =>
      intro _
      cases r with
      | nil => rfl
      | cons t r =>
        show (s ++ Str.ofString "'\"'\"'" ++ Str.join (Str.ofString "'\"'\"'") (t :: r)).cps.toList ++ [39] = _
        rw [app_cps, app_cps, List.append_assoc, ih (by simp), e5, List.append_assoc]
        rfl
  have hne : strands x ≠ [] := by
    obtain ⟨p, r, e⟩ := ne_split x (Str.mk #[39])
    unfold strands
    rw [e]
    simp
  rw [← key _ hne]
  rfl
theorem strands_free (x : Str) : ∀ p ∈ strands x, 39 ∉ p.cps.toList := StrLaws.split_free x 39
theorem strands_join (x : Str) : Str.join (Str.mk #[39]) (strands x) = x := StrLaws.join_split x _
theorem run_sp {px : Bool} {cm : Str} {r : List Nat} : (if false = true then Ph.done else Ph.sp).run px cm (Str.ofString "") false r = rtSp px cm r := by
  show (if Str.ofString "" = Str.ofString "" ∧ false = false then rtSp px cm r else none) = _
  rw [if_pos ⟨rfl, rfl⟩]
theorem run_done {px : Bool} {cm : Str} : (if true = true then Ph.done else Ph.sp).run px cm (Str.ofString "") false [] = some (Str.ofString "", false, true, []) := by
  show (if ([] : List Nat) = [] ∧ false = false then some (Str.ofString "", false, true, ([] : List Nat)) else none) = _
  rw [if_pos ⟨rfl, rfl⟩]
theorem reads_nil {px : Bool} {cm : Str} : Reads px cm false [] [] := .stop (r' := []) (tok := Str.ofString "") (q := false) (fin := true) run_sp ⟨rfl, fun _ => rfl⟩
theorem reads_done {px : Bool} {cm : Str} : Reads px cm true [] [] := .stop (r' := []) (tok := Str.ofString "") (q := false) (fin := true) run_done ⟨rfl, fun _ => rfl⟩
theorem one_app_ne (c : Nat) (x : Str) : ¬ Str.mk #[c] ++ x = Str.ofString "" := by
  intro e
  have := congrArg PySem.Str.length e
  rw [PySem.Str.length_append, eNil] at this
  have h1 : (Str.mk #[c]).length = 1 := rfl
  have h2 : (Str.mk #[]).length = 0 := rfl
  omega
theorem strands_ne (x : Str) : strands x ≠ [] := by
  obtain ⟨p, r, e⟩ := ne_split x (Str.mk #[39])
  unfold strands
  rw [e]
  simp
theorem quo_bare {x : Str} (h : bare x = true) : quo x = x := by
  unfold bare at h
  rw [Bool.and_eq_true, decide_eq_true_eq, List.all_eq_true] at h
  unfold quo
  rw [if_neg h.1, if_pos h.2]
theorem strands_nil : body5 (strands (Str.ofString "")) = [39] := by
  have e : strands (Str.ofString "") = [Str.ofString ""] := by
    unfold strands Txt.split
    rw [if_pos (by decide +kernel)]
  rw [e]
  decide +kernel
theorem quo_quoted {x : Str} (h : bare x = false) : (quo x).cps.toList = 39 :: body5 (strands x) := by
  unfold quo
  split
  · rename_i e
    rw [e, strands_nil]
    decide +kernel
  · rename_i hne
    split
    · rename_i hall
      have : bare x = true := by
        unfold bare
        rw [Bool.and_eq_true, decide_eq_true_eq, List.all_eq_true]
        exact ⟨hne, hall⟩
      rw [h] at this
      cases this
    · exact quoT_cps x
theorem bare_cons {x : Str} (h : bare x = true) : ∃ c l, x.cps.toList = c :: l ∧ safeC c = true ∧ (∀ d ∈ l, safeC d = true) ∧ Str.mk #[c] ++ tx l = x := by
  unfold bare at h
  rw [Bool.and_eq_true, decide_eq_true_eq, List.all_eq_true] at h
  cases hx : x.cps.toList with
  | nil =>
    refine absurd (PySem.Str.ext' ?_) h.1
    rw [eNil]
    exact Array.toList_eq_nil_iff.mp hx
  | cons c l =>
    refine ⟨c, l, rfl, h.2 c (by rw [hx]; exact List.mem_cons_self), fun d hd => h.2 d (by rw [hx]; exact List.mem_cons_of_mem _ hd), ?_⟩
    apply PySem.Str.ext'
    show #[c] ++ l.toArray = x.cps
    have : x.cps = (c :: l).toArray := by rw [← hx]
    rw [this]
    simp
section
variable {cm : Str} (hcm : CmOk cm)
include hcm
/-- a quoted text, read with posix -/
theorem rtk_body : ∀ (l : List Str), l ≠ [] → (∀ p ∈ l, 39 ∉ p.cps.toList) → ∀ (tok : Str) (qd : Bool) (r : List Nat), rtk true cm (.q 39) tok qd (body5 l ++ r) = rtk true cm .a (tok ++ Str.join (Str.mk #[39]) l) true r
  | [], h, _, _, _, _ => absurd rfl h
  | [s], _, hf, tok, qd, r => by
    show rtk true cm (.q 39) tok qd ((s.cps.toList ++ [39]) ++ r) = _
    rw [List.append_assoc]
    exact rtk_qP s.cps.toList tok qd r (hf s (by simp))
  | s :: t :: l, _, hf, tok, qd, r => by
    show rtk true cm (.q 39) tok qd ((s.cps.toList ++ 39 :: 34 :: 39 :: 34 :: 39 :: body5 (t :: l)) ++ r) = _
    rw [List.append_assoc]
    show rtk true cm (.q 39) tok qd (s.cps.toList ++ 39 :: (34 :: 39 :: 34 :: 39 :: (body5 (t :: l) ++ r))) = _
    rw [rtk_qP s.cps.toList tok qd _ (hf s (by simp)), rtk_joint hcm, rtk_body (t :: l) (by simp) (fun p hp => hf p (List.mem_cons_of_mem _ hp))]
    have e : tok ++ tx s.cps.toList ++ Str.mk #[39] ++ Str.join (Str.mk #[39]) (t :: l) = tok ++ (s ++ Str.mk #[39] ++ Str.join (Str.mk #[39]) (t :: l)) := by
      rw [app_assoc, app_assoc, app_assoc]
      rfl
    rw [e]
    rfl
theorem sp_bare {px : Bool} {x : Str} (h : bare x = true) (r : List Nat) : rtSp px cm (x.cps.toList ++ r) = rtk px cm .a x false r := by
  obtain ⟨c, l, hx, hc, hl, he⟩ := bare_cons h
  obtain ⟨h1, h2, h3, _⟩ := safe_of hc
  have h4 := hcm.1 c hc
  rw [hx]
  show rtSp px cm (c :: (l ++ r)) = _
  rw [rtSp]
  simp only [h1, h2, h3, h4, Bool.and_false, Bool.or_false, Bool.false_eq_true, if_false]
  have h5 : (Str.mk #[c]).length > 0 := Nat.zero_lt_one
  rw [rtk_bare hcm l _ _ r hl h5, he]
/-- one word, read with posix: up to the state behind it -/
theorem sp_word (x : Str) (r : List Nat) : ∃ qd, (x.length > 0 ∨ qd = true) ∧ rtSp true cm ((quo x).cps.toList ++ r) = rtk true cm .a x qd r := by
  cases h : bare x with
  | true =>
    refine ⟨false, .inl ?_, ?_⟩
    · obtain ⟨c, l, hx, _⟩ := bare_cons h
      rw [len_cps, hx]
      exact Nat.succ_pos _
    · rw [quo_bare h]
      exact sp_bare hcm h r
  | false =>
    refine ⟨true, .inr rfl, ?_⟩
    rw [quo_quoted h]
    show rtSp true cm (39 :: (body5 (strands x) ++ r)) = _
    rw [rtSp]
    simp only [hcm.2.1, inS_39, Bool.and_false, Bool.or_false, Bool.false_eq_true, if_false, if_true]
    rw [rtk_body hcm _ (strands_ne x) (strands_free x), strands_join, eNil]
    have e : Str.mk #[] ++ x = x := by
      apply PySem.Str.ext'
      show #[] ++ x.cps = x.cps
      simp
    rw [e]
omit hcm in
theorem notEnd {x : Str} {qd : Bool} (h : x.length > 0 ∨ qd = true) : ¬ IsEnd true x qd := fun ⟨e1, e2⟩ => by
  rcases h with h | h
  · rw [e1, eNil] at h
    exact absurd h (by decide)
  · rw [e2 rfl] at h
    cases h
theorem readsP : ∀ ws : List Str, Reads true cm false (lineC ws) ws
  | [] => reads_nil
  | [x] => by
    obtain ⟨qd, h1, h2⟩ := sp_word hcm x []
    rw [List.append_nil] at h2
    exact .item (r' := []) (q := qd) (fin := true) (run_sp.trans h2) (notEnd h1) reads_done
  | x :: y :: r => by
    obtain ⟨qd, h1, h2⟩ := sp_word hcm x (32 :: lineC (y :: r))
    rw [rtk_end hcm (h1.imp id fun h => ⟨rfl, h⟩)] at h2
    exact .item (r' := lineC (y :: r)) (q := qd) (fin := false) (run_sp.trans h2) (notEnd h1) (readsP (y :: r))
/-- blanks ahead of a token are passed over -/
theorem reads_blank {px : Bool} {r : List Nat} {ts : List Str} (h : Reads px cm false r ts) : Reads px cm false (32 :: r) ts := by
  have e : (if false = true then Ph.done else Ph.sp).run px cm (Str.ofString "") false (32 :: r) = (if false = true then Ph.done else Ph.sp).run px cm (Str.ofString "") false r := by
    rw [run_sp, run_sp, rtSp]
    simp only [hcm.2.2.2, inS_32, Bool.and_false, Bool.or_false, Bool.false_eq_true, if_false, if_true]
  cases h with
  | stop h he => exact .stop (e.trans h) he
  | item h he n => exact .item (e.trans h) he n
theorem readN_apo {s : Str} {r : List Nat} {ts : List Str} (hs : 39 ∉ s.cps.toList) (h : Reads false cm false r ts) : Reads false cm false (39 :: (s.cps.toList ++ 39 :: r)) (apo s :: ts) := by
  refine .item (r' := r) (q := true) (fin := false) (tok := apo s) (run_sp.trans ?_) (fun ⟨e, _⟩ => ?_) h
  · rw [rtSp]
    simp only [hcm.2.1, inS_39, Bool.false_and, Bool.or_false, Bool.false_eq_true, if_false, if_true]
    exact rtk_qN s.cps.toList _ false r hs
  · unfold apo at e
    rw [app_assoc] at e
    exact one_app_ne _ _ e
theorem readN_mid {r : List Nat} {ts : List Str} (h : Reads false cm false r ts) : Reads false cm false (34 :: 39 :: 34 :: r) (mid :: ts) := by
  refine .item (r' := r) (q := true) (fin := false) (tok := mid) (run_sp.trans ?_) (fun ⟨e, _⟩ => absurd e (by decide +kernel)) h
  rw [rtSp]
  simp only [hcm.2.2.1, inS_34, Bool.false_and, Bool.or_false, Bool.false_eq_true, if_false, if_true]
  rw [rtk]
  simp only [Bool.false_and, Bool.or_false, decide_true, Bool.not_true, Bool.false_eq_true, if_false, if_true, or_true]
  rw [if_neg (by decide), rtk]
  simp only [Bool.false_and, Bool.or_false, decide_true, Bool.not_true, Bool.false_eq_true, if_false, if_true, or_true]
  rfl
theorem readN_body : ∀ (l : List Str), (∀ p ∈ l, 39 ∉ p.cps.toList) → ∀ {r : List Nat} {ts : List Str}, Reads false cm false r ts → l ≠ [] → Reads false cm false (39 :: (body5 l ++ r)) (weave l ++ ts)
  | [], _, _, _, _, h => absurd rfl h
  | [s], hf, r, ts, h, _ => by
    show Reads false cm false (39 :: ((s.cps.toList ++ [39]) ++ r)) (apo s :: ts)
    rw [List.append_assoc]
    exact readN_apo hcm (hf s (by simp)) h
  | s :: t :: l, hf, r, ts, h, _ => by
    show Reads false cm false (39 :: ((s.cps.toList ++ 39 :: 34 :: 39 :: 34 :: 39 :: body5 (t :: l)) ++ r)) (apo s :: (mid :: (weave (t :: l) ++ ts)))
    rw [List.append_assoc]
    exact readN_apo hcm (hf s (by simp)) (readN_mid hcm (readN_body (t :: l) (fun p hp => hf p (List.mem_cons_of_mem _ hp)) h (by simp)))
theorem readsN : ∀ ws : List Str, Reads false cm false (lineC ws) (toksOf ws)
  | [] => reads_nil
  | [x] => by
    show Reads false cm false (quo x).cps.toList (tokOf x ++ [])
    cases h : bare x with
    | true =>
      unfold tokOf
      rw [if_pos h, quo_bare h]
      obtain ⟨c, l, _, _, _, he⟩ := bare_cons h
      have e := sp_bare (px := false) hcm h []
      rw [List.append_nil] at e
      exact .item (r' := []) (q := false) (fin := true) (run_sp.trans e) (fun ⟨e, _⟩ => one_app_ne c (tx l) (he.trans e)) reads_done
    | false =>
      unfold tokOf
      rw [if_neg (by rw [h]; decide), quo_quoted h]
      have := readN_body hcm (strands x) (strands_free x) (r := []) (ts := []) reads_nil (strands_ne x)
      rw [List.append_nil] at this
      exact this
  | x :: y :: r => by
    show Reads false cm false ((quo x).cps.toList ++ 32 :: lineC (y :: r)) (tokOf x ++ toksOf (y :: r))
    have ih := readsN (y :: r)
    cases h : bare x with
    | true =>
      unfold tokOf
      rw [if_pos h, quo_bare h]
      obtain ⟨c, l, hx, _, _, he⟩ := bare_cons h
      have e := sp_bare (px := false) hcm h (32 :: lineC (y :: r))
      rw [rtk_end hcm (.inl (by rw [len_cps, hx]; exact Nat.succ_pos _))] at e
      exact .item (r' := lineC (y :: r)) (q := false) (fin := false) (run_sp.trans e) (fun ⟨e, _⟩ => one_app_ne c (tx l) (he.trans e)) ih
    | false =>
      unfold tokOf
      rw [if_neg (by rw [h]; decide), quo_quoted h]
      exact readN_body hcm (strands x) (strands_free x) (reads_blank hcm ih) (strands_ne x)
end
theorem strands_len (x : Str) : (strands x).length ≤ x.length + 2 := by
  unfold strands Txt.split
  split
  · show 1 ≤ _; omega
  · split
    · show 1 ≤ _; omega
    · rw [length_partsBetween]
      have := StrLaws.occ_length_le x (Str.mk #[39]) 0 x.length (x.length + 1)
      omega
theorem sum_le_join (sep : Str) : ∀ l : List Str, (l.map (·.length)).sum ≤ (Str.join sep l).length
  | [] => Nat.zero_le _
  | [x] => by
    show x.length + 0 ≤ x.length
    omega
  | x :: y :: r => by
    have h := sum_le_join sep (y :: r)
    show x.length + ((y :: r).map (·.length)).sum ≤ (x ++ sep ++ Str.join sep (y :: r)).length
    rw [PySem.Str.length_append, PySem.Str.length_append]
    omega
theorem repl_eq (x : Str) : Txt.replace x (Str.ofString "'") (Str.ofString "'\"'\"'") = Str.join (Str.ofString "'\"'\"'") (strands x) := by
  rw [e39]
  exact StrLaws.replace_one x _ 39
theorem repl_len {x : Str} (h : x.length ≤ 100) : (Txt.replace x (Str.ofString "'") (Str.ofString "'\"'\"'")).length ≤ 700 := by
  rw [repl_eq]
  have h1 := StrLaws.join_length_le (Str.ofString "'\"'\"'") (strands x)
  have h2 := sum_le_join (Str.mk #[39]) (strands x)
  rw [strands_join] at h2
  have h3 : (Str.ofString "'\"'\"'").length = 5 := by decide +kernel
  rw [h3] at h1
  have h4 := strands_len x
  omega
theorem quo_len {x : Str} (h : x.length ≤ 100) : (quo x).length ≤ 702 := by
  unfold quo
  split
  · have : (Str.ofString "''").length = 2 := by decide +kernel
    omega
  · split
    · omega
    · unfold quoT
      rw [PySem.Str.length_append, PySem.Str.length_append]
      have h1 := repl_len h
      have : (Str.ofString "'").length = 1 := by decide +kernel
      omega
theorem line_fits {ws : List Str} (hn : ws.length ≤ 13) (hw : ∀ x ∈ ws, x.length ≤ 100) : JoinOk (Str.ofString " ") (ws.map quo) = true ∧ (Txt.join (Str.ofString " ") (ws.map quo)).length ≤ 50000 := by
  have hB : ∀ y ∈ ws.map quo, y.length ≤ 702 := fun y hy => by
    obtain ⟨x, hx, rfl⟩ := List.mem_map.mp hy
    exact quo_len (hw x hx)
  have h1 : (Str.ofString " ").length = 1 := by decide +kernel
  constructor
  · unfold JoinOk
    rw [StrLaws.joinFits hB (by rw [List.length_map, h1]; omega)]
    rfl
  · show (Builtin.Str.glued _ _).length ≤ _
    rw [StrLaws.glued_eq_join]
    have h2 := StrLaws.join_length_le (Str.ofString " ") (ws.map quo)
    have h3 := StrLaws.sumLen_le _ hB
    rw [List.length_map] at h2 h3
    rw [h1] at h2
    omega
theorem weave_len : ∀ l : List Str, (weave l).length ≤ 2 * l.length
  | [] => Nat.zero_le _
  | s :: r => by
    have e : ∀ r : List Str, (r.flatMap fun t => [mid, apo t]).length = 2 * r.length := by
      intro r
      induction r with
      | nil => rfl
      | cons t r ih =>
        rw [List.flatMap_cons, List.length_append, ih]
        simp only [List.length_cons, List.length_nil]
        omega
    unfold weave
    rw [List.length_cons, e, List.length_cons]
    omega
theorem tokOf_len {x : Str} (h : x.length ≤ 100) : (tokOf x).length ≤ 204 := by
  unfold tokOf
  split
  · show 1 ≤ _
    omega
  · have := weave_len (strands x)
    have := strands_len x
    omega
theorem toks_len : ∀ {ws : List Str}, (∀ x ∈ ws, x.length ≤ 100) → (toksOf ws).length ≤ 204 * ws.length
  | [], _ => Nat.zero_le _
  | x :: r, h => by
    have h1 := toks_len (ws := r) fun y hy => h y (List.mem_cons_of_mem _ hy)
    have h2 := tokOf_len (h x List.mem_cons_self)
    show (tokOf x ++ toksOf r).length ≤ _
    rw [List.length_append, List.length_cons]
    omega
def okS (x : Str) : Prop := PyData.strOk x = true
theorem ks_canLayAll0 : ∀ ns : List Str, (∀ x ∈ ns, okS x) → PyData.canLayAll0 (ns.map PyData.str) = true
  | [], _ => rfl
  | x :: r, h => by
    have h1 : PyData.strOk x = true := h x List.mem_cons_self
    simp [PyData.canLayAll0, PyData.canLay0, h1, ks_canLayAll0 r fun y hy => h y (List.mem_cons_of_mem _ hy)]
theorem ks_depthAll : ∀ ns : List Str, PyData.depthAll (ns.map PyData.str) = 0
  | [] => rfl
  | _ :: r => by simp [PyData.depthAll, PyData.depth, ks_depthAll r]
theorem ks_shaped {ns : List Str} (h : ∀ x ∈ ns, okS x) : SeqAt.shaped (.list (ns.map PyData.str)) = true := by
  simp [SeqAt.shaped, PyData.canLay0, PyData.depth, ks_canLayAll0 ns h, ks_depthAll]
theorem ks_sameAll : ∀ ns ms : List Str, PySem.Spec.sameAll (ns.map PyData.str) (ms.map PyData.str) = decide (ns = ms)
  | [], [] => by simp [PySem.Spec.sameAll]
  | [], _ :: _ => by simp [PySem.Spec.sameAll]
  | _ :: _, [] => by simp [PySem.Spec.sameAll]
  | a :: r, b :: t => by
    simp only [List.map_cons, PySem.Spec.sameAll, PySem.Spec.same, ks_sameAll r t]
    by_cases h : a = b <;> by_cases h' : r = t <;> simp [h, h']
theorem ks_same (ns ms : List Str) : PySem.Spec.same (.list (ns.map PyData.str)) (.list (ms.map PyData.str)) = decide (ns = ms) := by
  simp only [PySem.Spec.same]; exact ks_sameAll ns ms
theorem ks_carried : ∀ {vs : List Value} {ns : List Str}, StrsAre vs ns → CarriedAll vs (ns.map PyData.str)
  | _, _, .nil => .nil
  | _, _, .cons _ t r => .cons (.str _ t) (ks_carried r)
section
variable {prog : Program} {w : World} {A : Around} {E : Value → Shared → Prop} {s : Shared} {a b : Addr} {xs ys : List Value} {ns ms : List Str} {Q : Value → Shared → Prop}
theorem ks_eq (ha : s.heap.IsList a xs.toArray) (hb : s.heap.IsList b ys.toArray) (hi : StrsAre xs ns) (hj : StrsAre ys ms) (hk : ∀ x ∈ ns, okS x) (hl : ∀ x ∈ ms, okS x) (hu : A.units + 64 < cLine) (h : Q (.bool (decide (ns = ms))) s) :
    wpAny (model prog w) A (compareOp .Eq (.ref a) (.ref b)) Q E s :=
  eq_dataH_same (reads_newData ha (ks_carried hi)) (reads_newData hb (ks_carried hj)) (ks_shaped hk) (ks_shaped hl) hu (SeqAt.noMix_of_shape (.list .str) rfl _ _ (list_map_has fun _ => rfl) (list_map_has fun _ => rfl)) (by rw [ks_same]; exact h)
theorem ks_ne (ha : s.heap.IsList a xs.toArray) (hb : s.heap.IsList b ys.toArray) (hi : StrsAre xs ns) (hj : StrsAre ys ms) (hk : ∀ x ∈ ns, okS x) (hl : ∀ x ∈ ms, okS x) (hu : A.units + 64 < cLine) (h : Q (.bool (!decide (ns = ms))) s) :
    wpAny (model prog w) A (compareOp .NotEq (.ref a) (.ref b)) Q E s :=
  ne_dataH_same (reads_newData ha (ks_carried hi)) (reads_newData hb (ks_carried hj)) (ks_shaped hk) (ks_shaped hl) hu (SeqAt.noMix_of_shape (.list .str) rfl _ _ (list_map_has fun _ => rfl) (list_map_has fun _ => rfl)) (by rw [ks_same]; exact h)
end
def safeS : Str := Str.ofString "abcdefghijklmnopqrstuvwxyzABCDEFGHIJKLMNOPQRSTUVWXYZ0123456789_@%+=:,./-"
theorem inS_safe (c : Nat) : inS safeS c = safeC c := rfl
theorem are_filter {pz : Str → Bool} : ∀ {vs : List Value} {as : List Str}, AreOf ItemKind.str vs as → StrsAre (vs.filter (ItemKind.str.lift pz)) (as.filter pz)
  | _, _, .nil => .nil
  | v :: vs, a :: as, .cons hk r => by
    have ih := are_filter (pz := pz) r
    have e := ItemKind.lift_is (pz := pz) hk
    obtain ⟨t, rfl⟩ := hk
    rw [List.filter_cons, List.filter_cons, e]
    cases hb : pz a with
    | true =>
      rw [if_pos rfl, if_pos rfl]
      exact .cons _ _ ih
    | false =>
      rw [if_neg (by decide), if_neg (by decide)]
      exact ih
theorem paired_eq {vs ys : List Value} (h : Paired (fun v r => v = r) vs ys) : ys = vs := by
  induction h with
  | nil => rfl
  | cons e _ ih => rw [e, ih]
section
variable {prog : Program} {w : World} {A : Around} {E : Value → Shared → Prop} {s : Shared} {env : Env} {m : Str → Option Value}
theorem bare_test {p1 p2 p3 : Pos} {c : Nat} {C : Addr} {u ts : Tok} (hk : env.scope.kind = .function) (h1 : env.kindOf (Str.ofString "sign") = some .local) (h2 : env.kindOf (Str.ofString "safe") = some .cell)
    (hc : env.cells.lookup (Str.ofString "safe") = some C) (hv : s.heap.IsCell C (some (.str safeS ts))) (hn : s.heap.Ns env.locals m) (hm : m (Str.ofString "sign") = some (.str ⟨#[c]⟩ u)) :
    wpAny (model prog w) A (isTrue (.Compare (.Name (Str.ofString "sign") p1) [.NotIn] [.Name (Str.ofString "safe") p2] p3) env (eval (.Compare (.Name (Str.ofString "sign") p1) [.NotIn] [.Name (Str.ofString "safe") p2] p3) env)) (fun ok s' => ok = !safeC c ∧ Keeps s s') E s := by
  refine wpAny_isTrue_Compare1 (wpAny_Name (wpAny_loadName_local hk h1 hn hm (wpAny_Name (wpAny_loadName_cell hk h2 hc hv ?_) (by decide))) (by decide))
  have e : Txt.contains safeS (Str.mk #[c]) = inS safeS c := StrLaws.found_one safeS c
  refine SB.notContains (wpAny_truthy_bool ⟨?_, s.heap, s.toks, rfl, fun _ _ e => e⟩)
  rw [e, inS_safe]
theorem bare_elt {p1 : Pos} {v : Value} (hk : env.scope.kind = .function) (h1 : env.kindOf (Str.ofString "sign") = some .local) (hn : s.heap.Ns env.locals m) (hm : m (Str.ofString "sign") = some v) :
    wpAny (model prog w) A (eval (.Name (Str.ofString "sign") p1) env) (fun y s' => v = y ∧ Keeps s s') E s :=
  wpAny_Name (wpAny_loadName_local hk h1 hn hm ⟨rfl, s.heap, s.toks, rfl, fun _ _ e => e⟩) (by decide)
end
section
variable {prog : Program} {w : World} {A : Around} {E : Value → Shared → Prop} {s : Shared} {h₀ : Heap} {L : Addr} {env : Env} {m : Str → Option Value} {news : List (Addr × Obj)}
theorem bare_comp {p1 p2 p3 p4 p5 : Pos} {iter : Expr} {scope : Scope} {C : Addr} {oc : Obj} {ts t : Tok} {x : Str} {pos : Pos} {Q : Value → Shared → Prop} (hh : A.handled = none) (F : Fr h₀ L s.heap m) (N : News h₀ L s.heap news)
    (hmem : (C, oc) ∈ news) (hd : oc.data = .cell (some (.str safeS ts))) (hxl : x.length ≤ 100000)
    (hclos : closureFor scope env = pure [(Str.ofString "safe", C)]) (hcell : ∀ y ∈ scope.names, y.2 ≠ .cell) (hkind : scope.kind = .function)
    (hnames : ∀ y ∈ scope.names, y.2 = .local → scope.names.lookup y.1 = some .local) (hx : scope.names.lookup (Str.ofString "sign") = some .local) (hs1 : (relabel scope env).names.lookup (Str.ofString "sign") = some .local) (hs2 : (relabel scope env).names.lookup (Str.ofString "safe") = some .cell)
    (hiter : ∀ R : Value → Shared → Prop, R (.str x t) s → wpAny (model prog w) A (eval iter env) R E s) (hfold : ∀ y, foldedSetIterable iter env y = pure y)
    (hQ : ∀ D h' tk ys n, Fr h₀ L h' m → News h₀ L h' ((D, listOf ys n) :: news) → StrsAre ys.toList ((signs x).filter fun a => !(a.cps.toList.all safeC)) → Q (.ref D) { s with heap := h', toks := tk }) :
    wpAny (model prog w) A (eval (.ListComp (.Name (Str.ofString "sign") p1) [⟨.Name (Str.ofString "sign") p2, iter, [.Compare (.Name (Str.ofString "sign") p3) [.NotIn] [.Name (Str.ofString "safe") p4] p5], 0⟩] scope pos) env) Q E s := by
  refine wpAny_ListComp_free (cl := [(Str.ofString "safe", C)]) (ItemKind.str.lift fun a => !(a.cps.toList.all safeC)) (fun v r => v = r) hclos hcell hkind hnames hx (hiter _ (wpAny_pyIter_str fun o St W hst => ?_)) hfold
  have hIn : ∀ b ob, s.heap.get? b = some ob → b ∉ [s.heap.objs.size] := fun b ob e hm => absurd (Heap.lt_size e) (by rw [List.mem_singleton.mp hm]; exact Nat.lt_irrefl _)
  refine ⟨_, _, _, x.cps.size, SignAt x, St, rfl, W _ hh, ?_, hst, ?_, ⟨?_, ?_⟩, fun D h' tk ys vs hD hl hpl hlen hP hF hk => ?_⟩
  · have hl : sizeLine = 16777216 := rfl
    have : x.cps.size = x.length := rfl
    omega
  · intro b hb
    rw [List.mem_singleton] at hb
    subst hb
    show _ < (Heap.push _ _).objs.size
    rw [Heap.size_push]
    exact Nat.lt_succ_self _
  · intro Ce i v s₃ m₃ E' hC hP hn hm hk ht
    obtain ⟨c, u, hc, rfl⟩ := hP
    refine wpAny_tests_one ?_
    have hcl : s₃.heap.get? C = some oc := hk _ _ (hIn _ _ (N _ hmem).1) (Heap.get?_push_of_some _ (N _ hmem).1)
    refine wpAny_mono (bare_test (env := compEnvC scope [(Str.ofString "safe", C)] Ce env) (C := C) (ts := ts) (by simp [compEnvC, relabel, hkind]) hs1 hs2 (by simp [compEnvC]) ⟨oc, hcl, hd⟩ hn hm) (fun ok s' h => ⟨?_, h.2⟩) fun _ _ e => e
    have ha : ItemKind.str.is ⟨#[c]⟩ (.str ⟨#[c]⟩ u) := ⟨u, rfl⟩
    rw [ItemKind.lift_is ha, h.1]
    simp
  · intro Ce i v s₃ m₃ E' hC hP hp hn hm hk ht
    exact bare_elt (env := compEnvC scope [(Str.ofString "safe", C)] Ce env) (by simp [compEnvC, relabel, hkind]) hs1 hn hm
  · obtain ⟨n, hD'⟩ := hpl
    have hDn : s.heap.get? D = none := by
      cases e : s.heap.get? D with
      | none => rfl
      | some ob => exact absurd (Heap.get?_push_of_some o e) (by rw [show (s.heap.push o).get? D = none from hD]; simp)
    have up : ∀ b ob, s.heap.get? b = some ob → h'.get? b = some ob := fun b ob e => hk b ob (hIn b ob e) (Heap.get?_push_of_some _ e)
    refine hQ D h' tk ys n (F.keeps up) (fun q hq => ?_) ?_
    · rcases List.mem_cons.mp hq with rfl | hq
      · refine ⟨hD', fun e => ?_, ?_⟩
        · obtain ⟨oL, _, _, hoL, _⟩ := F.ns
          have e' : D = L := e
          rw [e', hoL] at hDn
          cases hDn
        · cases e : h₀.get? D with
          | none => rfl
          | some ob =>
            have := F.keep _ _ e
            rw [hDn] at this
            cases this
      · exact N.grown up q hq
    · rw [paired_eq hF]
      exact are_filter (areOf_signs hlen hP)
end
section S44
local macro_rules | `(tactic| k_all) => `(tactic| first | assumption | exact ne_of_lt_all (by assumption) (by first | omega | exact Nat.le_succ _))
local macro_rules | `(tactic| walk_at "eval ListComp") => `(tactic| ((with_reducible rename StopHere => hM9); (with_reducible show wpAny _ _ (eval (Expr.ListComp _ _ _ _) _) _ _ _); refine hold ?_))
local macro_rules | `(tactic| walk_at "compareOp Eq ref ref") => `(tactic| (k_here; (with_reducible show wpAny _ _ (compareOp CmpOp.Eq (Value.ref _) (Value.ref _)) _ _ _); k_dflt (refine' ks_eq ?a ?b ?c ?d ?k ?l ?u ?_; (case a => exact News.isList (by k_asm) (by k_mem)); (case b => exact News.isList (by k_asm) (by k_mem)); (case c => first | assumption | exact StrsAre.nil); (case d => first | assumption | exact StrsAre.nil); (case k => assumption); (case l => exact fun _ h => nomatch h); (case u => k_units))))
theorem signs_nil (x : Str) : (((signs x).filter fun a => !(a.cps.toList.all safeC)) = []) = (x.cps.toList.all safeC = true) := by
  have e : ∀ l : List Nat, ((((l.map fun n => (⟨#[n]⟩ : Str)).filter fun a => !(a.cps.toList.all safeC)) = []) ↔ (l.all safeC = true)) := by
    intro l
    induction l with
    | nil => simp
    | cons c r ih =>
      have h1 : ((⟨#[c]⟩ : Str).cps.toList.all safeC) = safeC c := by simp
      rw [List.map_cons, List.filter_cons, h1, List.all_cons]
      cases safeC c with
      | true => simpa using ih
      | false => simp
  exact propext (e x.cps.toList)
theorem signs_ok {x : Str} (h : okS x) : ∀ y ∈ (signs x).filter (fun a => !(a.cps.toList.all safeC)), okS y := by
  intro y hy
  obtain ⟨hy, _⟩ := List.mem_filter.mp hy
  unfold signs at hy
  obtain ⟨c, hc, rfl⟩ := List.mem_map.mp hy
  unfold okS PyData.strOk at h ⊢
  rw [Array.all_eq_true'] at h ⊢
  intro d hd
  have hd' : d = c := by simpa using hd
  rw [hd']
  exact h c (by simpa using hc)
theorem bare_fin {x : Str} (h : (x != Str.ofString "") = true) : decide (((signs x).filter fun a => !(a.cps.toList.all safeC)) = []) = bare x := by
  unfold bare
  have h1 : x ≠ Str.ofString "" := by simpa using h
  rw [decide_eq_true h1, Bool.true_and]
  rw [Bool.eq_iff_iff, decide_eq_true_eq, signs_nil]
section
variable {w : World} {p0 : Program} {lo0 : List Str} {mean : ExcName → Option Value} {mg mb : Str → Option Value} {dp un : Nat} {gd : Option (List Code)} {cn : Str} {cs : Scope} {a : Addr} {ccd : Value} {cl : List (Str × Addr)} {outer : List Env} {A₀ : Around} {base h₀ : Heap} {L : Addr} {m : Str → Option Value} {s : Shared} {Q E : Value → Shared → Prop}
  {rest : List (Addr × Obj)} {x : Str} {tx : Tok}
theorem bare_spec (B : Below A₀ base outer h₀) (F : Fr h₀ L s.heap m) (X : (hd.heap_39 w.params).In h₀) (T : Top p0 lo0 mean mg mb h₀) (hk : cs.kind = .function) (hdp : dp + 30 < recursionLimit) (hun : un + 100 < cLine)
  (N : News h₀ L s.heap rest) (hx : x.length ≤ 100) (hok : okS x)
  (hret : ∀ h' tk, Fr h₀ L h' m → News h₀ L h' rest → Q (.bool (bare x)) { s with heap := h', toks := tk }) :
  wpAny (model PySem.Challenge.rw_il0144_01.row.prog w) (ktrTop dp un gd cn cs L a ccd cl outer) (call (.ref 778) [.str x tx]) Q E s := by
  revert X; k_fill; intro X
  refine wpAny_call ?_
  walk_at "my enter"
  have hSt := StopHere.mk
  k_steps
  · unfold Hold
    rename_i g1 L1 h1 tk1 FG1 B1 X1 T1 l1 o1 d1 hM h2 o2 F2 N2 d2 hne
    refine bare_comp (C := L1 + 1) (x := x) (t := tx) rfl F2 N2 (.head _) d2 (by omega) rfl (by decide) rfl (by decide) rfl rfl rfl ?_ (fun _ => rfl) fun D h3 tk3 ys n3 F3 N3 hys => ?_
    · intro R hR
      walk1
      exact hR
    have hsg := signs_ok hok
    rw [← bare_fin hne] at hret
    k_steps
    exact hret _ _ (by k_asm) (by walk_at "my asm")
  · have hne : (x != Str.ofString "") = false := by assumption
    have e : bare x = (x != Str.ofString "") := by
      unfold bare
      have h1 : x = Str.ofString "" := by simpa using hne
      rw [h1]
      decide +kernel
    rw [← e]
    exact hret _ _ (by k_asm) (by walk_at "my asm")
end
end S44
section S7
/-- a list's iterator -/
def IsIt (l : Addr) (i : Nat) (o : Obj) : Prop := o.cls = .type "list_iterator" ∧ o.data = .fields #[.ref l, .int i 0]
section
variable {prog : Program} {w : World} {A : Around} {E : Value → Shared → Prop} {s : Shared} {h₀ : Heap} {L D : Addr} {m : Str → Option Value} {news : List (Addr × Obj)}
theorem iter_lst {vs : List Value} {n : Nat} {Q : Value → Shared → Prop} (F : Fr h₀ L s.heap m) (N : News h₀ L s.heap news) (hm : (D, listOf vs.toArray n) ∈ news)
    (h : ∀ (J : Nat) oJ h', IsIt D 0 oJ → Fr h₀ L h' m → News h₀ L h' ((J, oJ) :: news) → (∀ p ∈ news, p.1 < J) → Q (.ref J) { s with heap := h' }) : wpAny (model prog w) A (pyIter (.ref D)) Q E s :=
  wpAny_pyIter_list (N.isList hm) (h _ _ _ ⟨rfl, rfl⟩ (F.push _) (N.push F _) fun p hp => Heap.lt_size (N p hp).1)
theorem next_lst {vs : List Value} {n i : Nat} {J : Addr} {oJ : Obj} {v : Value} {Q : Option Value → Shared → Prop} (F : Fr h₀ L s.heap m) (N : News h₀ L s.heap ((J, oJ) :: news)) (hJ : ∀ p ∈ news, p.1 ≠ J) (hi : IsIt D i oJ) (hm : (D, listOf vs.toArray n) ∈ news) (hv : vs[i]? = some v)
    (h : ∀ oJ' h', IsIt D (i + 1) oJ' → Fr h₀ L h' m → News h₀ L h' ((J, oJ') :: news) → Q (some v) { s with heap := h' }) : wpAny (model prog w) A (pyNext (.ref J)) Q E s := by
  have z := N _ (.head _)
  refine wpAny_pyNext_list_item (x := v) ⟨oJ, z.1, hi.1, hi.2⟩ (N.isList (.tail _ hm)) (by simpa using hv) fun h' hit hs => ?_
  obtain ⟨oJ', ho, hc, hd⟩ := hit
  exact h oJ' h' ⟨hc, hd⟩ (F.change hs z.2.1 z.2.2) (news_set (pre := []) N (fun _ hq => nomatch hq) hJ hs ho)
theorem next_lst_end {vs : List Value} {n i : Nat} {J : Addr} {oJ : Obj} {Q : Option Value → Shared → Prop} (hh : A.handled = none) (F : Fr h₀ L s.heap m) (N : News h₀ L s.heap ((J, oJ) :: news)) (hJ : ∀ p ∈ news, p.1 ≠ J) (hi : IsIt D i oJ) (hm : (D, listOf vs.toArray n) ∈ news) (hv : vs.length ≤ i)
    (h : ∀ h', Fr h₀ L h' m → News h₀ L h' news → Q none { s with heap := h' }) : wpAny (model prog w) A (pyNext (.ref J)) Q E s := by
  have z := N _ (.head _)
  refine wpAny_pyNext_list_end hh ⟨oJ, z.1, hi.1, hi.2⟩ (N.isList (.tail _ hm)) (by simpa using hv) fun h' he => h h' ⟨F.ns.extBut he (Ne.symm z.2.1), fun b o e => he b o (fun eb => ?_) (F.keep b o e), F.above⟩ fun q hq => ?_
  · rw [eb] at e
    rw [z.2.2] at e
    cases e
  · exact ⟨he _ _ (hJ q hq) (N q (.tail _ hq)).1, (N q (.tail _ hq)).2⟩
end
theorem strand_len {x p : Str} (h : p ∈ strands x) : p.length ≤ x.length := by
  have h2 := sum_le_join (Str.mk #[39]) (strands x)
  rw [strands_join] at h2
  have key : ∀ l : List Str, p ∈ l → p.length ≤ (l.map (·.length)).sum := by
    intro l
    induction l with
    | nil => intro h; cases h
    | cons y r ih =>
      intro h
      rw [List.map_cons, List.sum_cons]
      rcases List.mem_cons.mp h with rfl | h
      · omega
      · have := ih h
        omega
  have := key _ h
  omega
theorem apo_eq (x : Str) : Str.ofString "'" ++ x ++ Str.ofString "'" = apo x := by
  unfold apo
  rw [e39]
inductive Apos : List Value → List Str → Prop
  | nil : Apos [] []
  | cons {v : Value} {x : Str} {vs : List Value} {xs : List Str} (t : Tok) (h : v = .str (apo x) t) : Apos vs xs → Apos (v :: vs) (x :: xs)
theorem apos_strs : ∀ {vs : List Value} {xs : List Str}, Apos vs xs → StrsAre vs (xs.map apo)
  | _, _, .nil => .nil
  | _, _, .cons t h r => by
    subst h
    exact .cons _ t (apos_strs r)
theorem paired_apo {vs ys : List Value} (h : Paired (fun v r => ∃ c t t', v = Value.str c t ∧ r = Value.str (apo c) t') vs ys) : ∀ {xs : List Str}, StrsAre vs xs → Apos ys xs := by
  induction h with
  | nil => intro xs hs; cases hs; exact .nil
  | cons hf _ ih =>
    intro xs hs
    cases hs with
    | cons y t r =>
      obtain ⟨c, t1, t2, e1, e2⟩ := hf
      injection e1 with e1 _
      subst e1
      exact .cons t2 e2 (ih r)
section
variable {prog : Program} {w : World} {A : Around} {E : Value → Shared → Prop} {s : Shared} {h₀ : Heap} {L : Addr} {env : Env} {m : Str → Option Value} {news : List (Addr × Obj)}
theorem apo_elt {p1 p2 p3 p4 p5 : Pos} {k1 k2 : Nat} {c : Str} {u : Tok} {m₃ : Str → Option Value} (hcl : c.length ≤ 100000) (hk : env.scope.kind = .function) (h1 : env.kindOf (Str.ofString "strand") = some .local) (hn : s.heap.Ns env.locals m₃) (hm : m₃ (Str.ofString "strand") = some (.str c u)) :
    wpAny (model prog w) A (eval (.BinOp (.BinOp (.Constant (.str (Str.ofString "'")) k1 p1) .Add (.Name (Str.ofString "strand") p2) p3) .Add (.Constant (.str (Str.ofString "'")) k2 p4) p5) env) (fun y s' => (∃ c' t t', Value.str c u = .str c' t ∧ y = Value.str (apo c') t') ∧ Keeps s s') E s := by
  have hl : (Str.ofString "'").length = 1 := by decide +kernel
  have hla : (Str.ofString "'" ++ c).length ≤ 100001 := by rw [PySem.Str.length_append]; omega
  refine wpAny_BinOp (wpAny_BinOp (wpAny_Constant_str (wpAny_Name (wpAny_loadName_local hk h1 hn hm ?_) (by decide))))
  refine KXadd.add (K := 1) (L := 100000) (by omega) hcl (by decide) fun t' k _ => ?_
  refine wpAny_Constant_str ?_
  refine KXadd.add (K := 100001) (L := 1) hla (by omega) (by decide) fun t'' k' _ => ?_
  refine ⟨⟨c, u, t'', rfl, ?_⟩, s.heap, k', rfl, fun _ _ e => e⟩
  rw [apo_eq]
def SplitPost (s : Shared) (h₀ : Heap) (L : Addr) (m : Str → Option Value) (news : List (Addr × Obj)) (x : Str) (xv : Value) (s₁ : Shared) : Prop :=
  ∃ l vs n h' tk, xv = .ref l ∧ StrsAre vs (strands x) ∧ s₁ = { s with heap := h', toks := tk } ∧ Fr h₀ L h' m ∧ News h₀ L h' ((l, listOf vs.toArray n) :: news)
theorem apo_comp {p1 p2 p3 p4 p5 p6 p7 : Pos} {k1 k2 : Nat} {iter : Expr} {scope : Scope} {pos spos : Pos} {x : Str} {Q : Flow → Shared → Prop} (hh : A.handled = none) (hxl : x.length ≤ 100000)
    (hsw : swapsWith (.ListComp (.BinOp (.BinOp (.Constant (.str (Str.ofString "'")) k1 p1) .Add (.Name (Str.ofString "strand") p2) p3) .Add (.Constant (.str (Str.ofString "'")) k2 p4) p5) [⟨.Name (Str.ofString "strand") p6, iter, [], 0⟩] scope pos) (some (.Name (Str.ofString "strands") p7)) spos.line env = pure true)
    (hfree : ∀ z ∈ scope.names, z.2 ≠ .free) (hcell : ∀ z ∈ scope.names, z.2 ≠ .cell) (hkind : scope.kind = .function)
    (hnames : ∀ z ∈ scope.names, z.2 = .local → scope.names.lookup z.1 = some .local) (hx : scope.names.lookup (Str.ofString "strand") = some .local)
    (hy : env.kindOf (Str.ofString "strands") = some .local) (hp : (env.scope.kind == .class || (env.scope.kind == .module && env.locals != env.globals)) = false)
    (hL : env.locals = L)
    (hiter : wpAny (model prog w) A (eval iter env) (SplitPost s h₀ L m news x) E s) (hfold : ∀ y, foldedSetIterable iter env y = pure y)
    (hQ : ∀ (D : Nat) h' tk ys n, Fr h₀ L h' (fun z => if z = Str.ofString "strands" then some (.ref D) else m z) → News h₀ L h' ((D, listOf ys n) :: news) → (∀ p ∈ news, p.1 ≠ D) → StrsAre ys.toList ((strands x).map apo) → Q .next { s with heap := h', toks := tk }) :
    wpAny (model prog w) A (exec (.Assign [.Name (Str.ofString "strands") p7] (.ListComp (.BinOp (.BinOp (.Constant (.str (Str.ofString "'")) k1 p1) .Add (.Name (Str.ofString "strand") p2) p3) .Add (.Constant (.str (Str.ofString "'")) k2 p4) p5) [⟨.Name (Str.ofString "strand") p6, iter, [], 0⟩] scope pos) spos) env) Q E s := by
  refine wpAny_Assign_ListComp_walk (fun _ => true) (fun v r => ∃ c t t', v = Value.str c t ∧ r = Value.str (apo c) t') hsw hfree hcell hkind hnames hx hy hp (wpAny_mono hiter (fun xv s₁ h₁ => ?_) fun _ _ e => e) hfold
  obtain ⟨l, vs, nl, h1, tk1, rfl, hvs, rfl, F1, N1⟩ := h₁
  refine wpAny_pyIter_list (N1.isList (.head _)) ?_
  have hlI : l ≠ h1.objs.size := Nat.ne_of_lt (Heap.lt_size (N1 _ (.head _)).1)
  have hIn : ∀ b ob, h1.get? b = some ob → b ∉ [h1.objs.size] := fun b ob e hm => absurd (Heap.lt_size e) (by rw [List.mem_singleton.mp hm]; exact Nat.lt_irrefl _)
  have hlen0 := hvs.length
  have hsl := strands_len x
  refine ⟨_, _, _, vs.toArray.size, _, _, m, rfl, Walks.list hh _ l hlI vs.toArray, ?_, ⟨?_, ?_⟩, ?_, ?_, ?_, ⟨?_, ?_⟩, fun D h' tk ys vs' hD hl hpl hlen hP hF hns hk => ?_⟩
  · have hl : sizeLine = 16777216 := rfl
    simp
    omega
  · exact ⟨_, Heap.get?_push_size _ rfl, rfl, rfl⟩
  · obtain ⟨o, ho, r⟩ := N1.isList (.head _)
    exact ⟨o, Heap.get?_push_of_some _ ho, r⟩
  · intro b hb
    show _ < (Heap.push _ _).objs.size
    rw [Heap.size_push]
    simp only [List.mem_cons, List.not_mem_nil, or_false] at hb
    rcases hb with rfl | rfl
    · exact Nat.lt_succ_self _
    · exact Nat.lt_succ_of_lt (Heap.lt_size (N1 _ (.head _)).1)
  · rw [hL]
    exact hIn _ _ F1.ns.choose_spec.choose_spec.choose_spec.1
  · rw [hL]
    exact (F1.push _).ns
  · intro C i v s₃ m₃ E' hP hn hm hk ht
    exact wpAny_tests_nil ⟨rfl, s₃.heap, s₃.toks, rfl, fun _ _ e => e⟩
  · intro C i v s₃ m₃ E' hP hp hn hm hk ht
    have hi : i < (strands x).length := by
      have := (Array.getElem?_eq_some_iff.mp hP).1
      simp at this
      omega
    obtain ⟨t, e⟩ := strs_at i hvs hi
    have e' : vs[i]? = some v := by simpa using hP
    rw [e] at e'
    injection e' with e'
    subst e'
    refine apo_elt (env := compEnv scope C env) ?_ hkind hx hn hm
    have := strand_len (x := x) (p := (strands x).getD i (Str.ofString "")) (by
      rw [List.getD_eq_getElem?_getD, List.getElem?_eq_getElem hi]
      exact List.getElem_mem hi)
    omega
  · obtain ⟨n, hD'⟩ := hpl
    have hDn : h1.get? D = none := by
      cases e : h1.get? D with
      | none => rfl
      | some ob => exact absurd (Heap.get?_push_of_some _ e) (by rw [hD]; simp)
    have upL : ∀ b ob, b ≠ L → h1.get? b = some ob → h'.get? b = some ob := fun b ob hb e => hk b ob (hL ▸ hb) (hIn b ob e) (Heap.get?_push_of_some _ e)
    have hoL : ∃ oL, h1.get? L = some oL := ⟨_, F1.ns.choose_spec.choose_spec.choose_spec.1⟩
    have hneL : ∀ b ob, h₀.get? b = some ob → b ≠ L := fun b ob e => Nat.ne_of_lt (Nat.lt_of_lt_of_le (Heap.lt_size e) F1.above)
    refine hQ D h' tk ys n ⟨hL ▸ hns, fun b ob e => upL b ob (hneL b ob e) (F1.keep _ _ e), F1.above⟩ (fun q hq => ?_) (fun q hq e => ?_) ?_
    · rcases List.mem_cons.mp hq with rfl | hq
      · refine ⟨hD', fun e => ?_, ?_⟩
        · obtain ⟨oL, hoL⟩ := hoL
          have e' : D = L := e
          rw [e', hoL] at hDn
          cases hDn
        · cases e : h₀.get? D with
          | none => rfl
          | some ob =>
            have := F1.keep _ _ e
            rw [hDn] at this
            cases this
      · have z := N1 q (.tail _ hq)
        exact ⟨upL _ _ z.2.1 z.1, z.2⟩
    · have z := N1 q (.tail _ hq)
      rw [e, hDn] at z
      cases z.1
    · have e1 : vs'.filter (fun _ => true) = vs' := List.filter_eq_self.mpr fun _ _ => rfl
      rw [e1] at hF
      have e2 : vs' = vs := by
        refine List.ext_getElem? fun j => ?_
        cases e : vs'[j]? with
        | some v => 
          have := hP j v e
          simpa using this.symm
        | none =>
          have h1 := List.getElem?_eq_none_iff.mp e
          rw [hlen] at h1
          exact (List.getElem?_eq_none_iff.mpr (by simpa using h1)).symm
      subst e2
      exact apos_strs (paired_apo hF hvs)
end
local macro_rules | `(tactic| walk_at "my enterT") => `(tactic| k_dflt (refine' TLgL.code_def ?k2 ?k3 ?k4 ?k5 ?kA ?k6 ?k7 ?k8 ?k9 ?kB ?_ ?cK ?c2 ?c3 ?c4 ?c5; (case kA => exact rfl); (case k2 => k_asm); (case k3 => k_asm); (case k4 => k_asm); (case k5 => k_asm); (case k6 => k_is); (case k7 => k_is); (case k8 => k_room); (case k9 => first | exact BindsTo.of_eq rfl | exact binds_K (by k_in) rfl (by k_is) rfl rfl rfl); (case kB => exact locs rfl); (case cK => first | exact rfl | assumption); (case c2 => exact rfl); (case c3 => exact rfl); (case c4 => exact rfl); (case c5 => decide); k_whole; intro oL' h' tiC' tiF' tiE' F' N'; (try dsimp only); (replace tiE' := TLgL.allNe_of tiE'); (try simp only [TLg.AllNe, and_true] at tiE'); (try simp only [List.nil_append, List.cons_append] at N')))
local macro_rules | `(tactic| walk_at "eval Name") => `(tactic| (k_here; k_dflt (refine' ld ?k1 ?k2 ?_; (case k1 => k_asm); (case k2 => first | with_reducible assumption | exact (if_pos rfl) | exact (if_neg (by decide +kernel)).trans (by assumption) | exact (if_neg (by decide +kernel)).trans (if_pos rfl) | exact (if_neg (by decide +kernel)).trans ((if_neg (by decide +kernel)).trans (by assumption))); k_whole)))
local macro_rules | `(tactic| walk_at "exec While Name") => `(tactic| ((with_reducible rename StopHere => hM9); (with_reducible show wpAny _ _ (exec (Stmt.While _ _ _ _) _) _ _ _); refine hold ?_))
local macro_rules | `(tactic| walk_at "exec While") => `(tactic| ((with_reducible rename StopHere => hM9); (with_reducible show wpAny _ _ (exec (Stmt.While _ _ _ _) _) _ _ _); refine hold ?_))
local macro_rules | `(tactic| walk_at "exec For") => `(tactic| ((with_reducible rename StopHere => hM9); (with_reducible show wpAny _ _ (exec (Stmt.For _ _ _ _ _) _) _ _ _); refine hold ?_))
local macro_rules | `(tactic| walk_at "exec For Name Call cons nil") => `(tactic| ((with_reducible rename StopHere => hM9); (with_reducible show wpAny _ _ (exec (Stmt.For _ _ _ _ _) _) _ _ _); refine hold ?_))
local macro_rules | `(tactic| walk_at "exec For Name Name cons nil") => `(tactic| ((with_reducible rename StopHere => hM9); (with_reducible show wpAny _ _ (exec (Stmt.For _ _ _ _ _) _) _ _ _); refine hold ?_))
local macro_rules | `(tactic| walk_at "exec For Name Subscript cons nil") => `(tactic| ((with_reducible rename StopHere => hM9); (with_reducible show wpAny _ _ (exec (Stmt.For _ _ _ _ _) _) _ _ _); refine hold ?_))
local macro_rules | `(tactic| walk_at "execs cons For") => `(tactic| fail "no")
local macro_rules | `(tactic| walk_at "pyIter ref") => `(tactic| ((with_reducible rename StopHere => hM9); (with_reducible show wpAny _ _ (pyIter (Value.ref _)) _ _ _); refine hold ?_))
local macro_rules | `(tactic| walk_at "call builtin:len") => `(tactic| (k_here; (with_reducible show wpAny _ _ (call (Value.builtin _) [Value.ref _]) _ _ _); k_dflt (refine' len_lst ?N ?m ?z ?_; (case N => k_asm); (case m => k_mem); (case z => assumption)); (try dsimp only)))
local macro_rules | `(tactic| walk_at "subscriptTail") => `(tactic| (k_here; (with_reducible show wpAny _ _ (subscriptTail _ _ (Value.ref _) (Value.int _ _)) _ _ _); k_dflt (refine' item_lst ?N ?m ?k ?j ?x ?_ ?s; (case N => k_asm); (case m => k_mem); (case x => assumption); (case k => first | assumption | rfl | omega); (case j => first | assumption | omega); (case s => with_unfolding_all rfl)); (try dsimp only)))
local macro_rules | `(tactic| walk_at "subscriptTail Name Slice ref ref") => `(tactic| (k_here; (with_reducible show wpAny _ _ (subscriptTail _ (PySem.Expr.Slice _ _ none _) (Value.ref _) (Value.ref _)) _ _ _); k_dflt (first
 | (refine' slice_from ?F ?N ?m ?k ?z ?_ ?s ?t; (case F => k_asm); (case N => k_asm); (case m => k_mem); (case k => assumption); (case z => assumption); (case s => with_unfolding_all rfl); (case t => kmk_pure))
 | (refine' slice_upto ?F ?N ?m ?k ?z ?_ ?s ?t; (case F => k_asm); (case N => k_asm); (case m => k_mem); (case k => assumption); (case z => assumption); (case s => with_unfolding_all rfl); (case t => kmk_pure))); intro D9 h9 F9 N9 l9; (try k_lt l9); (try dsimp only)))
local macro_rules | `(tactic| walk_at "call builtin:list.count") => `(tactic| (k_here; (with_reducible show wpAny _ _ (call (Value.builtin _) [Value.ref _, Value.str _ _]) _ _ _); k_dflt (refine' count_lst ?N ?m ?v ?_; (case N => k_asm); (case m => k_mem); (case v => assumption)); (try dsimp only); (try rw [cnt_is])))
local macro_rules | `(tactic| walk_at "getMethod ref") => `(tactic| (k_here; (with_reducible show wpAny _ _ (getMethod (Value.ref _) (PySem.Str.ofString "count") _) _ _ _); k_dflt (refine' kl_method ?N ?m PySem.F.slot_list_count PySem.F.type_list_count ?_; (case N => k_asm); (case m => k_mem))))
theorem lkAt_len (es os : List Str) (k : Nat) : (lkAt es os k).length ≤ 1 := by
  unfold lkAt
  split <;> simp
theorem ovAt_len (es os : List Str) (k : Nat) : (ovAt es os k).length ≤ 1 := by
  unfold ovAt
  split <;> simp
theorem lackTo_succ (es os : List Str) (i : Nat) : lackTo es os (i + 1) = lackTo es os i ++ lkAt es os (es.length - 1 - i) := by
  unfold lackTo
  rw [List.range_succ, List.flatMap_append]
  simp
theorem overTo_succ (es os : List Str) (i : Nat) : overTo es os (i + 1) = overTo es os i ++ ovAt es os i := by
  unfold overTo
  rw [List.range_succ, List.flatMap_append]
  simp
theorem lackTo_len (es os : List Str) : ∀ i, (lackTo es os i).length ≤ i
  | 0 => Nat.le_refl _
  | i + 1 => by
    rw [lackTo_succ, List.length_append]
    have := lackTo_len es os i
    have := lkAt_len es os (es.length - 1 - i)
    omega
theorem overTo_len (es os : List Str) : ∀ i, (overTo es os i).length ≤ i
  | 0 => Nat.le_refl _
  | i + 1 => by
    rw [overTo_succ, List.length_append]
    have := overTo_len es os i
    have := ovAt_len es os i
    omega
theorem fits_small {x : Int} (h1 : -200000 ≤ x) (h2 : x ≤ 200000) : Builtin.Range.rangeFitsLong x = true := by
  unfold Builtin.Range.rangeFitsLong
  rw [Bool.and_eq_true, decide_eq_true_eq, decide_eq_true_eq]
  omega
theorem small_down {n : Nat} (h : n ≤ 100000) : Builtin.Range.small ((n : Int) - 1) (-1) (-1) = true ∧ Builtin.Range.rangeSize ((n : Int) - 1) (-1) (-1) = (n : Int) := by
  have e : Builtin.Range.rangeSize ((n : Int) - 1) (-1) (-1) = (n : Int) := by
    unfold Builtin.Range.rangeSize
    rw [if_neg (by decide)]
    split
    · have : -(-1 : Int) = 1 := by decide
      rw [this, Int.ediv_one]
      omega
    · omega
  refine ⟨?_, e⟩
  unfold Builtin.Range.small
  rw [e, if_neg (by decide), fits_small (x := (n : Int) - 1) (by omega) (by omega), fits_small (x := -1) (by omega) (by omega), fits_small (x := (n : Int)) (by omega) (by omega), fits_small (x := (-1 : Int) + (-1 + 1)) (by omega) (by omega), Bool.or_true]
  rfl
theorem small_up {n : Nat} (h : n ≤ 100000) : Builtin.Range.small 0 (n : Int) 1 = true ∧ Builtin.Range.rangeSize 0 (n : Int) 1 = (n : Int) := by
  have e : Builtin.Range.rangeSize 0 (n : Int) 1 = (n : Int) := by
    unfold Builtin.Range.rangeSize
    rw [if_pos (by decide)]
    split
    · rw [Int.ediv_one]
      omega
    · omega
  refine ⟨?_, e⟩
  unfold Builtin.Range.small
  rw [e, if_pos (by decide), fits_small (x := 0) (by omega) (by omega), fits_small (x := 1) (by omega) (by omega), fits_small (x := (n : Int)) (by omega) (by omega), fits_small (x := (n : Int) + (1 - 1)) (by omega) (by omega), Bool.or_true]
  rfl
theorem getD_any {es : List Str} {j : Nat} (h : j < es.length) (x y : Str) : es.getD j x = es.getD j y := by
  rw [List.getD_eq_getElem?_getD, List.getD_eq_getElem?_getD, List.getElem?_eq_getElem h]
  rfl
section
variable {w : World} {p0 : Program} {lo0 : List Str} {mean : ExcName → Option Value} {mg mb : Str → Option Value} {dp un : Nat} {gd : Option (List Code)} {cn : Str} {cs : Scope} {a : Addr} {ccd : Value} {cl : List (Str × Addr)} {outer : List Env} {A₀ : Around} {base h₀ : Heap} {L : Addr} {m : Str → Option Value} {s : Shared} {Q E : Value → Shared → Prop}
  {e b : Nat} {ve vo : List Value} {es os : List Str} {ne no : Nat} {rest : List (Addr × Obj)}
def LackI (g : Heap) (L : Addr) (J l : Nat) (oJ : Nat → Obj) (to : Nat → List Str) (nm : Str) (n e b : Nat) (tl : List (Addr × Obj)) (s : Shared) (i : Nat) (s' : Shared) : Prop :=
  ∃ h' tk vl nl m', s' = { s with heap := h', toks := tk } ∧ i ≤ n ∧ StrsAre vl (to i) ∧ Fr g L h' m' ∧ m' (Str.ofString "some") = some (.ref e) ∧ m' (Str.ofString "others") = some (.ref b) ∧ m' nm = some (.ref l) ∧
    News g L h' ((J, oJ i) :: (l, listOf vl.toArray nl) :: tl)
theorem lack_spec (B : Below A₀ base outer h₀) (F : Fr h₀ L s.heap m) (X : (hd.heap_39 w.params).In h₀) (T : Top p0 lo0 mean mg mb h₀) (hk : cs.kind = .function) (hdp : dp + 30 < recursionLimit) (hun : un + 100 < cLine)
  (N : News h₀ L s.heap ((e, listOf ve.toArray ne) :: (b, listOf vo.toArray no) :: rest)) (he : StrsAre ve es) (ho : StrsAre vo os) (hle : es.length ≤ 50000) (hlo : os.length ≤ 50000)
  (hret : ∀ (l : Nat) h' tk (vl : List Value) nl, Fr h₀ L h' m → News h₀ L h' ((l, listOf vl.toArray nl) :: (e, listOf ve.toArray ne) :: (b, listOf vo.toArray no) :: rest) → (∀ q ∈ (e, listOf ve.toArray ne) :: (b, listOf vo.toArray no) :: rest, q.1 < l) → StrsAre vl (lackTo es os es.length) → Q (.ref l) { s with heap := h', toks := tk }) :
  wpAny (model PySem.Challenge.rw_il0144_01.row.prog w) (ktrTop dp un gd cn cs L a ccd cl outer) (call (.ref 790) [.ref e, .ref b]) Q E s := by
  revert X; k_fill; intro X
  refine wpAny_call ?_
  walk_at "my enter"
  have hSt := StopHere.mk
  k_steps
  unfold Hold
  refine for_start ?_ (hs := by first | (intro _; rfl) | (intro _; with_unfolding_all rfl))
  have hz : ve.length ≤ 100000 := by rw [he.length]; omega
  k_steps
  unfold Hold
  rename_i g1 L1 h1 FG1 B1 X1 T1 hM l h2 ll h3 F3 N3 h4 tk4 t1 t2 t3 R4 F4 N4 K4
  obtain ⟨m4, F4', hme, hmo, hml⟩ : ∃ m4, Fr g1 L1 h4 m4 ∧ m4 (Str.ofString "some") = some (.ref e) ∧ m4 (Str.ofString "others") = some (.ref b) ∧ m4 (Str.ofString "lacking") = some (.ref l) := ⟨_, F4, rfl, rfl, rfl⟩
  obtain ⟨sm1, sm2⟩ := small_down hz
  refine iter_range F4' N4 R4 sm1 fun J h5 F5 N5 l5 => ?_
  rw [sm2, he.length] at N5
  have l5' : ∀ q ∈ (l, listOf (#[] : Array Value) 0) :: (e, listOf ve.toArray ne) :: (b, listOf vo.toArray no) :: rest, q.1 ≠ J := fun q hq => Nat.ne_of_lt (l5 q hq)
  have tl1 : ∀ q ∈ (e, listOf ve.toArray ne) :: (b, listOf vo.toArray no) :: rest, q.1 < l := fun q hq => by
    rcases List.mem_cons.mp hq with rfl | hq
    · exact ll.1
    · rcases List.mem_cons.mp hq with rfl | hq
      · exact ll.2.1
      · exact allLt_mem ll.2.2 q hq
  have hlJ : l ≠ J := l5' (l, _) (.head _)
  have tlJ : ∀ q ∈ (e, listOf ve.toArray ne) :: (b, listOf vo.toArray no) :: rest, q.1 ≠ J := fun q hq => l5' q (.tail _ hq)
  refine ⟨J, rfl, for_ind (I := LackI g1 L1 J l (fun i => rangeO ((es.length : Int) - 1 - i) ((es.length : Int) - i) (-1)) (lackTo es os) (Str.ofString "lacking") es.length e b ((e, listOf ve.toArray ne) :: (b, listOf vo.toArray no) :: rest) s) (fun i => es.length - i) J ?_ (by passes_own) 0 ?_⟩
  rotate_left 1
  · refine ⟨h5, tk4, [], 0, m4, rfl, Nat.zero_le _, .nil, F5, hme, hmo, hml, ?_⟩
    simpa using N5
  clear F3 N3 F4 N4 R4 F4' hme hmo hml F5 N5 l5 l5' m4 sm1 sm2 K4 N
  rintro i s' ⟨h', tk, vl, nl, m', rfl, hi, hvl, F', hme, hmo, hml, N'⟩
  have hll : ∀ q ∈ (l, listOf vl.toArray nl) :: (e, listOf ve.toArray ne) :: (b, listOf vo.toArray no) :: rest, q.1 ≠ J := fun q hq => by
    rcases List.mem_cons.mp hq with rfl | hq
    · exact hlJ
    · exact tlJ q hq
  have hJl : J ≠ l := Ne.symm hlJ
  have hel : e ≠ l := Nat.ne_of_lt (tl1 (e, _) (.head _))
  have hbl : b ≠ l := Nat.ne_of_lt (tl1 (b, _) (.tail _ (.head _)))
  have hrl : ∀ q ∈ rest, q.1 ≠ l := fun q hq => Nat.ne_of_lt (tl1 q (.tail _ (.tail _ hq)))
  have hvz : vl.toArray.size ≤ sizeLine := by
    have h1 := hvl.length
    have h2 := lackTo_len es os i
    have hl : sizeLine = 16777216 := rfl
    simp
    omega
  by_cases hlt : i < es.length
  · obtain ⟨j, hj⟩ : ∃ j, j = es.length - 1 - i := ⟨_, rfl⟩
    refine next_range F' N' hll (by omega) fun h2 F2 N2 => ?_
    have hkj : (es.length : Int) - 1 - i = (j : Nat) := by omega
    have hjl : j < es.length := by omega
    have hjz : j ≤ 100000 := by omega
    obtain ⟨t, hx⟩ := strs_at j he hjl
    have hd := strs_drop j he
    show wpAny _ _ (storeName _ _ _) _ _ _
    k_steps
    all_goals
      have hjn : ((es.length : Int) - 1 - (i : Int)).toNat = j := by omega
      have hgd := getD_any hjl Str.empty (Str.ofString "")
      show WhlNext _ _ _ _
      have e1 : rangeO ((es.length : Int) - 1 - (i : Int) + -1) ((es.length : Int) - (i : Int) - 1) (-1) = rangeO ((es.length : Int) - 1 - ((i + 1 : Nat) : Int)) ((es.length : Int) - ((i + 1 : Nat) : Int)) (-1) := by
        have ea : (es.length : Int) - 1 - (i : Int) + -1 = (es.length : Int) - 1 - ((i + 1 : Nat) : Int) := by push_cast; omega
        have eb : (es.length : Int) - (i : Int) - 1 = (es.length : Int) - ((i + 1 : Nat) : Int) := by push_cast; omega
        rw [ea, eb]
    · rename_i hc tk5 t5 h5 F5 N5
      rw [hjn, hgd] at hc N5
      have ep : vl.toArray.push (Value.str (es.getD j (Str.ofString "")) t5) = (vl ++ [Value.str (es.getD j (Str.ofString "")) t5]).toArray := by simp
      rw [ep, e1] at N5
      have hlk : lackTo es os (i + 1) = lackTo es os i ++ [es.getD j (Str.ofString "")] := by
        rw [lackTo_succ, ← hj]
        unfold lkAt
        rw [if_pos (show (es.drop j).count (es.getD j (Str.ofString "")) > os.count (es.getD j (Str.ofString "")) from Int.ofNat_lt.mp hc)]
      refine ⟨i + 1, (show es.length - (i + 1) < es.length - i by omega), _, _, vl ++ [Value.str (es.getD j (Str.ofString "")) t5], nl + 1, _, rfl, by omega, by rw [hlk]; exact strs_snoc hvl, F5, ?_, ?_, ?_, news_tail N5⟩
      · exact (if_neg (by decide +kernel)).trans hme
      · exact (if_neg (by decide +kernel)).trans hmo
      · exact (if_neg (by decide +kernel)).trans hml
    · rename_i h4 F4 N4 tk4 D5 h5 F5 N5 l5 t4 t5 hc
      rw [hjn, hgd] at hc
      rw [e1] at N5
      have hlk : lackTo es os (i + 1) = lackTo es os i := by
        rw [lackTo_succ, ← hj]
        unfold lkAt
        rw [if_neg (show ¬ (es.drop j).count (es.getD j (Str.ofString "")) > os.count (es.getD j (Str.ofString "")) from fun k => hc (Int.ofNat_lt.mpr k)), List.append_nil]
      refine ⟨i + 1, (show es.length - (i + 1) < es.length - i by omega), _, _, vl, nl, _, rfl, by omega, by rw [hlk]; exact hvl, F5, ?_, ?_, ?_, news_tail N5⟩
      · exact (if_neg (by decide +kernel)).trans hme
      · exact (if_neg (by decide +kernel)).trans hmo
      · exact (if_neg (by decide +kernel)).trans hml
  · refine next_range_end rfl F' N' hll (by omega) fun h2 F2 N2 => ?_
    have hin : i = es.length := by omega
    subst hin
    unfold ForTurn
    dsimp only
    k_steps
    exact hret l _ _ _ _ (by k_asm) (by k_asm) tl1 hvl
end
section
variable {w : World} {p0 : Program} {lo0 : List Str} {mean : ExcName → Option Value} {mg mb : Str → Option Value} {dp un : Nat} {gd : Option (List Code)} {cn : Str} {cs : Scope} {a : Addr} {ccd : Value} {cl : List (Str × Addr)} {outer : List Env} {A₀ : Around} {base h₀ : Heap} {L : Addr} {m : Str → Option Value} {s : Shared} {Q E : Value → Shared → Prop}
  {e b : Nat} {ve vo : List Value} {es os : List Str} {ne no : Nat} {rest : List (Addr × Obj)}
theorem over_spec (B : Below A₀ base outer h₀) (F : Fr h₀ L s.heap m) (X : (hd.heap_39 w.params).In h₀) (T : Top p0 lo0 mean mg mb h₀) (hk : cs.kind = .function) (hdp : dp + 30 < recursionLimit) (hun : un + 100 < cLine)
  (N : News h₀ L s.heap ((e, listOf ve.toArray ne) :: (b, listOf vo.toArray no) :: rest)) (he : StrsAre ve es) (ho : StrsAre vo os) (hle : es.length ≤ 50000) (hlo : os.length ≤ 50000)
  (hret : ∀ (l : Nat) h' tk (vl : List Value) nl, Fr h₀ L h' m → News h₀ L h' ((l, listOf vl.toArray nl) :: (e, listOf ve.toArray ne) :: (b, listOf vo.toArray no) :: rest) → (∀ q ∈ (e, listOf ve.toArray ne) :: (b, listOf vo.toArray no) :: rest, q.1 < l) → StrsAre vl (overTo es os es.length) → Q (.ref l) { s with heap := h', toks := tk }) :
  wpAny (model PySem.Challenge.rw_il0144_01.row.prog w) (ktrTop dp un gd cn cs L a ccd cl outer) (call (.ref 797) [.ref e, .ref b]) Q E s := by
  revert X; k_fill; intro X
  refine wpAny_call ?_
  walk_at "my enter"
  have hSt := StopHere.mk
  k_steps
  unfold Hold
  refine for_start ?_ (hs := by first | (intro _; rfl) | (intro _; with_unfolding_all rfl))
  have hz : ve.length ≤ 100000 := by rw [he.length]; omega
  k_steps
  unfold Hold
  rename_i g1 L1 h1 FG1 B1 X1 T1 hM l h2 ll h3 F3 N3 h4 tk4 t1 t2 t3 R4 F4 N4 K4
  obtain ⟨m4, F4', hme, hmo, hml⟩ : ∃ m4, Fr g1 L1 h4 m4 ∧ m4 (Str.ofString "some") = some (.ref e) ∧ m4 (Str.ofString "others") = some (.ref b) ∧ m4 (Str.ofString "over") = some (.ref l) := ⟨_, F4, rfl, rfl, rfl⟩
  obtain ⟨sm1, sm2⟩ := small_up hz
  refine iter_range F4' N4 R4 sm1 fun J h5 F5 N5 l5 => ?_
  rw [sm2, he.length] at N5
  have l5' : ∀ q ∈ (l, listOf (#[] : Array Value) 0) :: (e, listOf ve.toArray ne) :: (b, listOf vo.toArray no) :: rest, q.1 ≠ J := fun q hq => Nat.ne_of_lt (l5 q hq)
  have tl1 : ∀ q ∈ (e, listOf ve.toArray ne) :: (b, listOf vo.toArray no) :: rest, q.1 < l := fun q hq => by
    rcases List.mem_cons.mp hq with rfl | hq
    · exact ll.1
    · rcases List.mem_cons.mp hq with rfl | hq
      · exact ll.2.1
      · exact allLt_mem ll.2.2 q hq
  have hlJ : l ≠ J := l5' (l, _) (.head _)
  have tlJ : ∀ q ∈ (e, listOf ve.toArray ne) :: (b, listOf vo.toArray no) :: rest, q.1 ≠ J := fun q hq => l5' q (.tail _ hq)
  refine ⟨J, rfl, for_ind (I := LackI g1 L1 J l (fun i => rangeO (i : Int) ((es.length : Int) - i) 1) (overTo es os) (Str.ofString "over") es.length e b ((e, listOf ve.toArray ne) :: (b, listOf vo.toArray no) :: rest) s) (fun i => es.length - i) J ?_ (by passes_own) 0 ?_⟩
  rotate_left 1
  · refine ⟨h5, tk4, [], 0, m4, rfl, Nat.zero_le _, .nil, F5, hme, hmo, hml, ?_⟩
    simpa using N5
  clear F3 N3 F4 N4 R4 F4' hme hmo hml F5 N5 l5 l5' m4 sm1 sm2 K4 N
  rintro i s' ⟨h', tk, vl, nl, m', rfl, hi, hvl, F', hme, hmo, hml, N'⟩
  have hll : ∀ q ∈ (l, listOf vl.toArray nl) :: (e, listOf ve.toArray ne) :: (b, listOf vo.toArray no) :: rest, q.1 ≠ J := fun q hq => by
    rcases List.mem_cons.mp hq with rfl | hq
    · exact hlJ
    · exact tlJ q hq
  have hJl : J ≠ l := Ne.symm hlJ
  have hel : e ≠ l := Nat.ne_of_lt (tl1 (e, _) (.head _))
  have hbl : b ≠ l := Nat.ne_of_lt (tl1 (b, _) (.tail _ (.head _)))
  have hrl : ∀ q ∈ rest, q.1 ≠ l := fun q hq => Nat.ne_of_lt (tl1 q (.tail _ (.tail _ hq)))
  have hvz : vl.toArray.size ≤ sizeLine := by
    have h1 := hvl.length
    have h2 := overTo_len es os i
    have hl : sizeLine = 16777216 := rfl
    simp
    omega
  by_cases hlt : i < es.length
  · obtain ⟨j, hj⟩ : ∃ j, j = i := ⟨_, rfl⟩
    refine next_range F' N' hll (by omega) fun h2 F2 N2 => ?_
    have hkj : (i : Int) + 1 = ((j + 1 : Nat) : Int) := by omega
    have hjl : j < es.length := by omega
    have hjz : j ≤ 100000 := by omega
    obtain ⟨t, hx⟩ := strs_at j he hjl
    have hd := strs_take (j + 1) he
    show wpAny _ _ (storeName _ _ _) _ _ _
    k_steps
    all_goals
      have hjn : ((i : Int)).toNat = j := by omega
      have hgd := getD_any hjl Str.empty (Str.ofString "")
      show WhlNext _ _ _ _
      have e1 : rangeO ((i : Int) + 1) ((es.length : Int) - (i : Int) - 1) 1 = rangeO ((i + 1 : Nat) : Int) ((es.length : Int) - ((i + 1 : Nat) : Int)) 1 := by
        have ea : (i : Int) + 1 = ((i + 1 : Nat) : Int) := by push_cast; omega
        have eb : (es.length : Int) - (i : Int) - 1 = (es.length : Int) - ((i + 1 : Nat) : Int) := by push_cast; omega
        rw [ea, eb]
    · rename_i hc tk5 t5 h5 F5 N5
      rw [hjn, hgd] at hc N5
      have ep : vl.toArray.push (Value.str (es.getD j (Str.ofString "")) t5) = (vl ++ [Value.str (es.getD j (Str.ofString "")) t5]).toArray := by simp
      rw [ep, e1] at N5
      have hlk : overTo es os (i + 1) = overTo es os i ++ [es.getD j (Str.ofString "")] := by
        rw [overTo_succ, ← hj]
        unfold ovAt
        rw [if_pos (show (es.take (j + 1)).count (es.getD j (Str.ofString "")) > os.count (es.getD j (Str.ofString "")) from Int.ofNat_lt.mp hc)]
      refine ⟨i + 1, (show es.length - (i + 1) < es.length - i by omega), _, _, vl ++ [Value.str (es.getD j (Str.ofString "")) t5], nl + 1, _, rfl, by omega, by rw [hlk]; exact strs_snoc hvl, F5, ?_, ?_, ?_, news_tail N5⟩
      · exact (if_neg (by decide +kernel)).trans hme
      · exact (if_neg (by decide +kernel)).trans hmo
      · exact (if_neg (by decide +kernel)).trans hml
    · rename_i h4 F4 N4 tk4 D5 h5 F5 N5 l5 t4 t5 hc
      rw [hjn, hgd] at hc
      rw [e1] at N5
      have hlk : overTo es os (i + 1) = overTo es os i := by
        rw [overTo_succ, ← hj]
        unfold ovAt
        rw [if_neg (show ¬ (es.take (j + 1)).count (es.getD j (Str.ofString "")) > os.count (es.getD j (Str.ofString "")) from fun k => hc (Int.ofNat_lt.mpr k)), List.append_nil]
      refine ⟨i + 1, (show es.length - (i + 1) < es.length - i by omega), _, _, vl, nl, _, rfl, by omega, by rw [hlk]; exact hvl, F5, ?_, ?_, ?_, news_tail N5⟩
      · exact (if_neg (by decide +kernel)).trans hme
      · exact (if_neg (by decide +kernel)).trans hmo
      · exact (if_neg (by decide +kernel)).trans hml
  · refine next_range_end rfl F' N' hll (by omega) fun h2 F2 N2 => ?_
    have hin : i = es.length := by omega
    subst hin
    unfold ForTurn
    dsimp only
    k_steps
    exact hret l _ _ _ _ (by k_asm) (by k_asm) tl1 hvl
end
local macro_rules | `(tactic| walk_at "exec Assign cons ListComp") => `(tactic| ((with_reducible rename StopHere => hM9); (with_reducible show wpAny _ _ (exec (Stmt.Assign _ (Expr.ListComp _ _ _ _) _) _) _ _ _); refine hold ?_))
local macro_rules | `(tactic| walk_at "call ref") => `(tactic| (k_here; (with_reducible show wpAny _ _ (call (Value.ref 778) [Value.str _ _]) _ _ _); k_dflt (refine' bare_spec ?kB ?kF ?kX ?kT ?kk ?hdp ?hun ?kN ?hx ?ho ?_; (case kB => k_asm); (case kF => k_asm); (case kX => k_asm); (case kT => k_asm); (case kk => rfl); (case kN => k_asm); (case hdp => k_room); (case hun => k_units); (case hx => assumption); (case ho => assumption)); intro h9 tk9 F9 N9; (try dsimp only)))
local macro_rules | `(tactic| walk_at "truthy bool") => `(tactic| ((with_reducible show wpAny _ _ (truthy (Value.bool (bare _))) _ _ _); refine wpAny_truthy_bool ?_))
section
variable {w : World} {p0 : Program} {lo0 : List Str} {mean : ExcName → Option Value} {mg mb : Str → Option Value} {dp un : Nat} {gd : Option (List Code)} {cn : Str} {cs : Scope} {a : Addr} {ccd : Value} {cl : List (Str × Addr)} {outer : List Env} {A₀ : Around} {base h₀ : Heap} {L : Addr} {m : Str → Option Value} {s : Shared} {Q E : Value → Shared → Prop}
  {e : Nat} {ve : List Value} {es : List Str} {ne : Nat} {rest : List (Addr × Obj)}
def ToksI (g : Heap) (L : Addr) (J l e : Nat) (es : List Str) (tl : List (Addr × Obj)) (s : Shared) (i : Nat) (s' : Shared) : Prop :=
  ∃ h' tk oJ vl nl m', s' = { s with heap := h', toks := tk } ∧ i ≤ es.length ∧ IsIt e i oJ ∧ StrsAre vl (toksOf (es.take i)) ∧ Fr g L h' m' ∧ m' (Str.ofString "tokens") = some (.ref l) ∧ News g L h' ((J, oJ) :: (l, listOf vl.toArray nl) :: tl)
def ToksI2 (g : Heap) (L : Addr) (J l D' : Nat) (sr : List Str) (pre : List Str) (yr : List Value) (tl : Nat → List Value → List (Addr × Obj)) (s : Shared) (i : Nat) (s' : Shared) : Prop :=
  ∃ h' tk oJ vl nl m', s' = { s with heap := h', toks := tk } ∧ i ≤ sr.length ∧ IsIt D' i oJ ∧ StrsAre vl (pre ++ (sr.take i).flatMap fun t => [mid, apo t]) ∧ Fr g L h' m' ∧ m' (Str.ofString "tokens") = some (.ref l) ∧ News g L h' ((J, oJ) :: (D', listOf yr.toArray 0) :: tl nl vl)
theorem emid : Str.ofString "\"'\"" = mid := by decide +kernel
theorem toks_spec (B : Below A₀ base outer h₀) (F : Fr h₀ L s.heap m) (X : (hd.heap_39 w.params).In h₀) (T : Top p0 lo0 mean mg mb h₀) (hk : cs.kind = .function) (hdp : dp + 40 < recursionLimit) (hun : un + 200 < cLine)
  (N : News h₀ L s.heap ((e, listOf ve.toArray ne) :: rest)) (he : StrsAre ve es) (hle : es.length ≤ 100) (hw : ∀ x ∈ es, x.length ≤ 100) (hok : ∀ x ∈ es, okS x)
  (hret : ∀ (l : Nat) h' tk (vl : List Value) nl, Fr h₀ L h' m → News h₀ L h' ((l, listOf vl.toArray nl) :: (e, listOf ve.toArray ne) :: rest) → (∀ q ∈ (e, listOf ve.toArray ne) :: rest, q.1 < l) → StrsAre vl (toksOf es) → Q (.ref l) { s with heap := h', toks := tk }) :
  wpAny (model PySem.Challenge.rw_il0144_01.row.prog w) (ktrTop dp un gd cn cs L a ccd cl outer) (call (.ref 783) [.ref e]) Q E s := by
  revert X; k_fill; intro X
  refine wpAny_call ?_
  walk_at "my enter"
  have hSt := StopHere.mk
  k_steps
  unfold Hold
  refine for_start ?_ (hs := by first | (intro _; rfl) | (intro _; with_unfolding_all rfl))
  k_steps
  unfold Hold
  rename_i g1 L1 h1 FG1 B1 X1 T1 hM l h2 ll h3 F3 N3
  obtain ⟨m4, F4', hmt⟩ : ∃ m4, Fr g1 L1 h3 m4 ∧ m4 (Str.ofString "tokens") = some (.ref l) := ⟨_, F3, rfl⟩
  refine iter_lst F4' N3 (.tail _ (.head _)) fun J oJ h5 hJ0 F5 N5 l5 => ?_
  have l5' : ∀ q ∈ (l, listOf (#[] : Array Value) 0) :: (e, listOf ve.toArray ne) :: rest, q.1 ≠ J := fun q hq => Nat.ne_of_lt (l5 q hq)
  have tl1 : ∀ q ∈ (e, listOf ve.toArray ne) :: rest, q.1 < l := fun q hq => by
    rcases List.mem_cons.mp hq with rfl | hq
    · exact ll.1
    · exact allLt_mem ll.2 q hq
  have hlJ : l ≠ J := l5' (l, _) (.head _)
  have tlJ : ∀ q ∈ (e, listOf ve.toArray ne) :: rest, q.1 ≠ J := fun q hq => l5' q (.tail _ hq)
  refine ⟨J, rfl, for_ind (I := ToksI g1 L1 J l e es ((e, listOf ve.toArray ne) :: rest) s) (fun i => es.length - i) J ?_ (by passes_own) 0 ?_⟩
  rotate_left 1
  · exact ⟨h5, _, oJ, [], 0, m4, rfl, Nat.zero_le _, hJ0, .nil, F5, hmt, N5⟩
  clear F3 N3 F4' hmt F5 N5 l5 l5' m4 N hJ0 oJ
  rintro i s' ⟨h', tk, oJ, vl, nl, m', rfl, hi, hJi, hvl, F', hmt, N'⟩
  have hll : ∀ q ∈ (l, listOf vl.toArray nl) :: (e, listOf ve.toArray ne) :: rest, q.1 ≠ J := fun q hq => by
    rcases List.mem_cons.mp hq with rfl | hq
    · exact hlJ
    · exact tlJ q hq
  have hJl : J ≠ l := Ne.symm hlJ
  have hel : e ≠ l := Nat.ne_of_lt (tl1 (e, _) (.head _))
  have hrl : ∀ q ∈ rest, q.1 ≠ l := fun q hq => Nat.ne_of_lt (tl1 q (.tail _ hq))
  by_cases hlt : i < es.length
  · obtain ⟨t, hx⟩ := strs_at i he hlt
    have hmem : es.getD i (Str.ofString "") ∈ es := by
      rw [List.getD_eq_getElem?_getD, List.getElem?_eq_getElem hlt]
      exact List.getElem_mem hlt
    obtain ⟨x, hxe⟩ : ∃ x, x = es.getD i (Str.ofString "") := ⟨_, rfl⟩
    rw [← hxe] at hx hmem
    have hx1 := hw x hmem
    have hx2 := hok x hmem
    have htk : toksOf (es.take (i + 1)) = toksOf (es.take i) ++ tokOf x := by
      unfold toksOf
      rw [hxe, List.take_succ_eq_append_getElem hlt, List.flatMap_append]
      rw [List.getD_eq_getElem?_getD, List.getElem?_eq_getElem hlt]
      simp
    have htl : (toksOf (es.take i)).length ≤ 204 * i := by
      have h1 := toks_len (ws := es.take i) fun y hy => hw y (List.mem_of_mem_take hy)
      rw [List.length_take, Nat.min_eq_left hi] at h1
      exact h1
    have hline : sizeLine = 16777216 := rfl
    have hvz : vl.toArray.size ≤ sizeLine := by
      have h1 := hvl.length
      simp
      omega
    refine next_lst F' N' hll hJi (.tail _ (.head _)) hx fun oJ2 h2 hJ2 F2 N2 => ?_
    show wpAny _ _ (storeName _ _ _) _ _ _
    k_steps
    · rename_i h4 F4 N4 h5 tk5 F5 N5 hb h6 F6 N6
      show WhlNext _ _ _ _
      have ep : vl.toArray.push (Value.str x t) = (vl ++ [Value.str x t]).toArray := by simp
      rw [ep] at N6
      have hto : tokOf x = [x] := by
        unfold tokOf
        rw [if_pos hb]
      refine ⟨i + 1, (show es.length - (i + 1) < es.length - i by omega), _, _, oJ2, vl ++ [Value.str x t], nl + 1, _, rfl, by omega, hJ2, by rw [htk, hto]; exact strs_snoc hvl, F6, ?_, N6⟩
      exact (if_neg (by decide +kernel)).trans hmt
    · unfold Hold
      rename_i h4 F4 N4 h5 tk5 F5 N5 hb
      have hto : tokOf x = weave (strands x) := by
        unfold tokOf
        rw [if_neg (by rw [hb]; decide)]
      refine apo_comp (x := x) (L := L1) (h₀ := g1) (m := fun y => if y = Str.ofString "word" then some (Value.str x t) else m' y) (news := (J, oJ2) :: (l, listOf vl.toArray nl) :: (e, listOf ve.toArray ne) :: rest) rfl (by omega) rfl (by decide) (by decide) rfl (by decide) rfl rfl rfl rfl ?_ (fun _ => rfl) fun D h6 tk6 ys n6 F6 N6 hD6 hys => ?_
      · k_steps
        rename_i sp h7 tk7 esp hsp hsl hIs F7 N7
        rw [esp, e39] at hsp
        exact ⟨_, strValues sp, 0, _, _, rfl, hsp, rfl, F7, N7⟩
      · obtain ⟨yl, rfl⟩ : ∃ yl : List Value, ys = yl.toArray := ⟨ys.toList, by simp⟩
        obtain ⟨s0, sr, hsr⟩ := ne_split x (Str.mk #[39])
        have hsr' : strands x = s0 :: sr := hsr
        have hslen := strands_len x
        rw [hsr'] at hys hto hslen
        have hyl := hys.length
        simp only [List.length_map, List.length_cons] at hyl hslen
        have hyz : yl.length ≤ 100000 := by omega
        obtain ⟨t0, hx0⟩ := strs_at 0 hys (by simp)
        have hyr := strs_drop 1 hys
        have h1k : (1 : Int) = ((1 : Nat) : Int) := rfl
        have hDl : D ≠ l := fun q => hD6 (l, _) (.tail _ (.head _)) q.symm
        have hDJ : D ≠ J := fun q => hD6 (J, _) (.head _) q.symm
        k_steps
        unfold Hold
        rename_i tk7 h7 F7 N7
        refine for_start ?_ (hs := by first | (intro _; rfl) | (intro _; with_unfolding_all rfl))
        k_steps
        unfold Hold
        rename_i D9 h9 F9 N9 l9
        obtain ⟨m9, F9', hmt9⟩ : ∃ m9, Fr g1 L1 h9 m9 ∧ m9 (Str.ofString "tokens") = some (.ref l) := ⟨_, F9, (if_neg (by decide +kernel)).trans ((if_neg (by decide +kernel)).trans hmt)⟩
        have ep : vl.toArray.push (Value.str ((List.map apo (s0 :: sr)).getD 0 (Str.ofString "")) t0) = (vl ++ [Value.str (apo s0) t0]).toArray := by simp
        rw [ep] at N9
        refine iter_lst F9' N9 (.head _) fun K oK h10 hK0 F10 N10 l10 => ?_
        have lK : ∀ {v : List Value} {nn : Nat}, ∀ q ∈ (D9, listOf (yl.drop 1).toArray 0) :: (J, oJ2) :: (l, listOf v.toArray nn) :: (e, listOf ve.toArray ne) :: rest, q.1 ≠ K := fun q hq => by
          rcases List.mem_cons.mp hq with rfl | hq
          · exact Nat.ne_of_lt (l10 (D9, _) (.head _))
          · rcases List.mem_cons.mp hq with rfl | hq
            · exact Nat.ne_of_lt (l10 (J, oJ2) (.tail _ (.tail _ (.head _))))
            · rcases List.mem_cons.mp hq with rfl | hq
              · exact Nat.ne_of_lt (show l < K from l10 (l, listOf (vl ++ [Value.str (apo s0) t0]).toArray (nl + 1)) (.tail _ (.tail _ (.tail _ (.head _)))))
              · exact Nat.ne_of_lt (l10 q (.tail _ (.tail _ (.tail _ (.tail _ hq)))))
        have hKl : K ≠ l := fun q => lK (v := []) (nn := 0) (l, _) (.tail _ (.tail _ (.head _))) q.symm
        have hDl9 : D9 ≠ l := Ne.symm (Nat.ne_of_lt l9.2.2.1)
        have N10' : News g1 L1 h10 ((K, oK) :: (D9, listOf (yl.drop 1).toArray 0) :: (J, oJ2) :: (l, listOf (vl ++ [Value.str (apo s0) t0]).toArray (nl + 1)) :: (e, listOf ve.toArray ne) :: rest) := fun q hq => N10 q (by
          rcases List.mem_cons.mp hq with rfl | hq
          · exact .head _
          · rcases List.mem_cons.mp hq with rfl | hq
            · exact .tail _ (.head _)
            · exact .tail _ (.tail _ (.tail _ hq)))
        refine ⟨K, rfl, for_ind (I := ToksI2 g1 L1 K l D9 sr (toksOf (es.take i) ++ [apo s0]) (yl.drop 1) (fun nn v => (J, oJ2) :: (l, listOf v.toArray nn) :: (e, listOf ve.toArray ne) :: rest) s) (fun i => sr.length - i) K ?_ (by passes_own) 0 ?_⟩
        rotate_left 1
        · exact ⟨h10, _, oK, _, _, m9, rfl, Nat.zero_le _, hK0, by simpa using strs_snoc hvl, F10, hmt9, N10'⟩
        clear F9 N9 F9' hmt9 F10 N10 N10' m9
        (try clear F7 N7)
        (try clear F6 N6)
        (try clear F5 N5)
        (try clear F4 N4)
        (try clear F2 N2)
        (try clear F' N')
        clear hvz hvl
        rintro k s' ⟨h', tk, oK2, vl, nl, m', rfl, hk2, hKi, hvl, F', hmt, N'⟩
        have hyr' : StrsAre (yl.drop 1) (sr.map apo) := hyr
        have hwl : vl.length ≤ 204 * i + 2 + 2 * k := by
          rw [hvl.length, List.length_append, List.length_append, List.length_singleton]
          have h1 := weave_len (s0 :: sr.take k)
          have h2 : (weave (s0 :: sr.take k)).length = ((sr.take k).flatMap fun t => [mid, apo t]).length + 1 := rfl
          rw [h2, List.length_cons, List.length_take, Nat.min_eq_left hk2] at h1
          omega
        have hvz : vl.toArray.size ≤ sizeLine := by
          simp
          omega
        by_cases hlt2 : k < sr.length
        · obtain ⟨t2, hx2'⟩ := strs_at k hyr' (by simpa using hlt2)
          have hgd : (sr.map apo).getD k (Str.ofString "") = apo (sr.getD k (Str.ofString "")) := by
            rw [List.getD_eq_getElem?_getD, List.getD_eq_getElem?_getD, List.getElem?_map, List.getElem?_eq_getElem hlt2]
            rfl
          rw [hgd] at hx2'
          refine next_lst F' N' lK hKi (.head _) hx2' fun oK3 h11 hK3 F11 N11 => ?_
          show wpAny _ _ (storeName _ _ _) _ _ _
          k_steps
          rename_i h12 tk12 h13 tk13 h14 F14 N14
          show WhlNext _ _ _ _
          have ep2 : (vl.toArray.push (Value.str (Str.ofString "\"'\"") tk12)).push (Value.str (apo (sr.getD k (Str.ofString ""))) t2) = (vl ++ [Value.str mid tk12] ++ [Value.str (apo (sr.getD k (Str.ofString ""))) t2]).toArray := by
            rw [emid]
            simp
          rw [ep2] at N14
          have hfm : (sr.take (k + 1)).flatMap (fun t => [mid, apo t]) = (sr.take k).flatMap (fun t => [mid, apo t]) ++ [mid] ++ [apo (sr.getD k (Str.ofString ""))] := by
            rw [List.take_succ_eq_append_getElem hlt2, List.flatMap_append]
            rw [List.getD_eq_getElem?_getD, List.getElem?_eq_getElem hlt2]
            simp
          refine ⟨k + 1, (show sr.length - (k + 1) < sr.length - k by omega), _, _, oK3, _, _, _, rfl, by omega, hK3, ?_, F14, (if_neg (by decide +kernel)).trans hmt, N14⟩
          rw [hfm, ← List.append_assoc, ← List.append_assoc]
          exact strs_snoc (strs_snoc hvl)
        · refine next_lst_end rfl F' N' lK hKi (.head _) (by rw [hyr'.length, List.length_map]; omega) fun h11 F11 N11 => ?_
          have hkn : k = sr.length := by omega
          subst hkn
          rw [List.take_length] at hvl
          unfold ForTurn
          dsimp only
          k_steps
          show WhlNext _ _ _ _
          refine ⟨i + 1, (show es.length - (i + 1) < es.length - i by omega), _, _, oJ2, vl, nl, m', rfl, by omega, hJ2, ?_, by k_asm, hmt, by walk_at "my asm"⟩
          rw [htk, hto]
          show StrsAre vl (toksOf (es.take i) ++ ([apo s0] ++ sr.flatMap fun t => [mid, apo t]))
          rw [← List.append_assoc]
          exact hvl
  · refine next_lst_end rfl F' N' hll hJi (.tail _ (.head _)) (by rw [he.length]; omega) fun h2 F2 N2 => ?_
    have hin : i = es.length := by omega
    subst hin
    rw [List.take_length] at hvl
    unfold ForTurn
    dsimp only
    k_steps
    exact hret l _ _ _ _ (by k_asm) (by k_asm) tl1 hvl
end
section
variable {prog : Program} {w : World} {A : Around} {E : Value → Shared → Prop} {s : Shared} {h₀ : Heap} {L D : Addr} {m : Str → Option Value} {news : List (Addr × Obj)}
theorem setL_last (y v : Value) : ∀ vs : List Value, ki_setL (vs ++ [y]) vs.length v = some (vs ++ [v])
  | [] => rfl
  | a :: r => by
    have ih := setL_last y v r
    show ki_setL (a :: (r ++ [y])) (r.length + 1) v = some (a :: (r ++ [v]))
    unfold ki_setL
    rw [ih]
theorem set_last {vs : List Value} {y v : Value} {n : Nat} {t : Tok} {news' : List (Addr × Obj)} {Q : Unit → Shared → Prop} (F : Fr h₀ L s.heap m) (N : News h₀ L s.heap news) (U : Upd D (listOf (vs ++ [y]).toArray n) (listOf (vs ++ [v]).toArray n) news news')
    (h : ∀ h', Fr h₀ L h' m → News h₀ L h' news' → Q () { s with heap := h' }) : wpAny (model prog w) A (setItem (.ref D) (.int (-1) t) v) Q E s := by
  refine ki_setNeg (j := vs.length) F N (by decide) (by decide) ?_ (by exact setL_last y v vs) U h
  have hs : (vs ++ [y]).toArray.size = vs.length + 1 := by simp
  rw [hs, PySem.seqIndex_neg (by decide) (by omega)]
  congr 1
  omega
theorem get_last {vs : List Value} {v : Value} {n : Nat} {t : Tok} {Q : Value → Shared → Prop} (N : News h₀ L s.heap news) (hm : (D, listOf (vs ++ [v]).toArray n) ∈ news) (h : Q v s) : wpAny (model prog w) A (getItem (.ref D) (.int (-1) t)) Q E s :=
  wpAny_getItem_list_neg (N.isList hm) (by decide) (by simp; omega) (by decide) (by
    have e : ((-1 : Int) + ((vs ++ [v]).toArray.size : Int)).toNat = vs.length := by simp; omega
    rw [e]; simp) h
end
theorem ints_at : ∀ {vs : List Value} {ns : List Int} (n : Nat), IntsAre vs ns → n < ns.length → ∃ i t, vs[n]? = some (.int i t)
  | _, _, _, .nil, h => by simp at h
  | _, _, 0, .cons y t _, _ => ⟨y, t, rfl⟩
  | _, _, n + 1, .cons _ _ r, h => by
    obtain ⟨i, t, e⟩ := ints_at n r (by simpa using h)
    exact ⟨i, t, by simpa using e⟩
local macro_rules | `(tactic| walk_at "getItem ref int") => `(tactic| (k_here; (with_reducible show wpAny _ _ (getItem (Value.ref _) (Value.int (-1) _)) _ _ _); k_dflt (refine' get_last ?N ?m ?_; (case N => k_asm); (case m => k_mem)); (try dsimp only)))
local macro_rules | `(tactic| walk_at "setItem ref int") => `(tactic| (k_here; (with_reducible show wpAny _ _ (PySem.setItem (Value.ref _) (Value.int (-1) _) (Value.str _ _)) _ _ _); k_dflt (refine' set_last ?F ?N ?U ?_; (case F => k_asm); (case N => k_asm); (case U => k_upd)); intro h9 F9 N9; (try dsimp only)))
def WordsI (g : Heap) (L : Addr) (J l : Nat) (n : Nat) (rest : List (Addr × Obj)) (D : Addr) (ws : List Value) (s : Shared) (i : Nat) (s' : Shared) : Prop :=
  ∃ h' tk oJ us t y vs nl m', s' = { s with heap := h', toks := tk } ∧ i ≤ n ∧ IsIt D i oJ ∧ StrsAre vs us ∧ (∀ x ∈ us, x.length ≤ 4 + i ∧ okS x) ∧ us.length ≤ i ∧ y.length ≤ 4 + i ∧ okS y ∧ Fr g L h' m' ∧ m' (Str.ofString "words") = some (.ref l) ∧ News g L h' ((J, oJ) :: (D, listOf ws.toArray 0) :: (l, listOf (vs ++ [Value.str y t]).toArray nl) :: rest)
theorem okS_app {x y : Str} (hx : okS x) (hy : okS y) : okS (x ++ y) := by
  unfold okS PyData.strOk at *
  rw [Array.all_eq_true'] at *
  intro c hc
  rw [PySem.Str.cps_append, Array.mem_append] at hc
  rcases hc with hc | hc
  · exact hx c hc
  · exact hy c hc
theorem okS_one {c : Nat} (h : c < 0x110000) : okS (Str.mk #[c]) := by
  unfold okS PyData.strOk
  simpa using h
theorem okS_item (x : Int) : okS (Txt.item (Str.ofString "'\" ab\\#%\n") (x.fmod 12 - 2)) := by
  have h0 := Int.fmod_nonneg_of_pos x (show (0 : Int) < 12 by decide)
  have h1 := Int.fmod_lt_of_pos x (show (0 : Int) < 12 by decide)
  have key : ∀ q : Fin 12, PyData.strOk (Txt.item (Str.ofString "'\" ab\\#%\n") ((q.val : Int) - 2)) = true := by decide +kernel
  obtain ⟨q, hq⟩ : ∃ q : Fin 12, x.fmod 12 = (q.val : Int) := ⟨⟨(x.fmod 12).toNat, by omega⟩, by simp only; omega⟩
  rw [hq]
  exact key q
theorem okS_chr (x : Int) : okS (Str.mk #[((x.fdiv 12).fmod 55296).toNat]) := by
  have h0 := Int.fmod_nonneg_of_pos (x.fdiv 12) (show (0 : Int) < 55296 by decide)
  have h1 := Int.fmod_lt_of_pos (x.fdiv 12) (show (0 : Int) < 55296 by decide)
  exact okS_one (by omega)
section
variable {w : World} {p0 : Program} {lo0 : List Str} {mean : ExcName → Option Value} {mg mb : Str → Option Value} {dp un : Nat} {gd : Option (List Code)} {cn : Str} {cs : Scope} {a : Addr} {ccd : Value} {cl : List (Str × Addr)} {outer : List Env} {A₀ : Around} {base h₀ : Heap} {L : Addr} {m : Str → Option Value} {s : Shared} {Q E : Value → Shared → Prop}
  {sc : Nat} {ve : List Value} {ns : List Int} {rest : List (Addr × Obj)}
theorem words_spec (B : Below A₀ base outer h₀) (F : Fr h₀ L s.heap m) (X : (hd.heap_39 w.params).In h₀) (T : Top p0 lo0 mean mg mb h₀) (hk : cs.kind = .function) (hdp : dp + 40 < recursionLimit) (hun : un + 200 < cLine)
  (N : News h₀ L s.heap rest) (hs : h₀.IsList sc ve.toArray) (hi : IntsAre ve ns) (hn : ns.length ≤ 63)
  (hret : ∀ (l : Nat) h' tk (vl : List Value) nl ws, Fr h₀ L h' m → News h₀ L h' ((l, listOf vl.toArray nl) :: rest) → (∀ q ∈ rest, q.1 < l) → StrsAre vl ws → ws.length ≤ 13 → (∀ x ∈ ws, x.length ≤ 16 ∧ okS x) → Q (.ref l) { s with heap := h', toks := tk }) :
  wpAny (model PySem.Challenge.rw_il0144_01.row.prog w) (ktrTop dp un gd cn cs L a ccd cl outer) (call (.ref 773) [.ref sc]) Q E s := by
  revert X; k_fill; intro X
  refine wpAny_call ?_
  walk_at "my enter"
  have hSt := StopHere.mk
  have hs1 := Fr.lst ‹Fr h₀ L _ m› hs
  k_steps
  unfold Hold
  refine for_start ?_ (hs := by first | (intro _; rfl) | (intro _; with_unfolding_all rfl))
  k_steps
  unfold Hold
  rename_i g1 L1 h1 FG1 B1 X1 T1 hM l h2 ll h3 D ws h4 F4 N4 hI hC hL lD
  obtain ⟨m4, F4', hmw⟩ : ∃ m4, Fr g1 L1 h4 m4 ∧ m4 (Str.ofString "words") = some (.ref l) := ⟨_, F4, rfl⟩
  refine iter_lst F4' N4 (.head _) fun J oJ h5 hJ0 F5 N5 l5 => ?_
  have lJ : ∀ {its : Array Value} {nn : Nat}, ∀ q ∈ (D, listOf ws.toArray 0) :: (l, listOf its nn) :: rest, q.1 ≠ J := fun q hq => by
    rcases List.mem_cons.mp hq with rfl | hq
    · exact Nat.ne_of_lt (l5 (D, _) (.head _))
    · rcases List.mem_cons.mp hq with rfl | hq
      · exact Nat.ne_of_lt (show l < J from l5 (l, _) (.tail _ (.head _)))
      · exact Nat.ne_of_lt (l5 q (.tail _ (.tail _ hq)))
  have hJl : J ≠ l := fun q => lJ (its := #[]) (nn := 0) (l, _) (.tail _ (.head _)) q.symm
  have hDl : D ≠ l := Ne.symm (Nat.ne_of_lt lD.1)
  have hrl : ∀ q ∈ rest, q.1 ≠ l := fun q hq => Nat.ne_of_lt (ll q hq)
  obtain ⟨n, hn2⟩ : ∃ n, n = (List.take 12 ns).length := ⟨_, rfl⟩
  have hn12 : n ≤ 12 := by omega
  refine ⟨J, rfl, for_ind (I := WordsI g1 L1 J l n rest D ws s) (fun i => n - i) J ?_ (by passes_own) 0 ?_⟩
  rotate_left 1
  · exact ⟨h5, _, oJ, [], _, Str.ofString "it's", [], _, m4, rfl, Nat.zero_le _, hJ0, .nil, (fun x hx => nomatch hx), Nat.le_refl _, by decide +kernel, by unfold okS; decide +kernel, F5, hmw, N5⟩
  clear F4 N4 F4' hmw F5 N5 l5 m4 N hJ0 oJ
  rintro i s' ⟨h', tk, oJ, us, t, y, vs, nl, m', rfl, hin, hJi, hvs, hus, hul, hyl, hyo, F', hmw, N'⟩
  have hwl := hI.length
  by_cases hlt : i < n
  · obtain ⟨x, t0, hx⟩ := ints_at i hI (by omega)
    have hvz : (vs ++ [Value.str y t]).toArray.size ≤ sizeLine := by
      have hline : sizeLine = 16777216 := rfl
      have := hvs.length
      simp
      omega
    have hy1 : y.length ≤ 1000000 := by omega
    have hm0 := Int.emod_nonneg x (show (12 : Int) ≠ 0 by decide)
    have hm1 := Int.emod_lt_of_pos x (show (0 : Int) < 12 by decide)
    refine next_lst F' N' lJ hJi (.head _) hx fun oJ2 h2 hJ2 F2 N2 => ?_
    show wpAny _ _ (storeName _ _ _) _ _ _
    k_steps
    · rename_i h6 tk6 hc tk7 h7 F7 N7
      show WhlNext _ _ _ _
      have ep : (vs ++ [Value.str y t]).toArray.push (Value.str (Str.ofString "") tk7) = ((vs ++ [Value.str y t]) ++ [Value.str (Str.ofString "") tk7]).toArray := by simp
      rw [ep] at N7
      refine ⟨i + 1, (show n - (i + 1) < n - i by omega), _, _, oJ2, us ++ [y], tk7, Str.ofString "", vs ++ [Value.str y t], nl + 1, _, rfl, by omega, hJ2, strs_snoc hvs, fun z hz => ?_, by simp; omega, by rw [eNil]; exact Nat.zero_le _, by unfold okS; decide +kernel, F7, (if_neg (by decide +kernel)).trans hmw, N7⟩
      rcases List.mem_append.mp hz with hz | hz
      · exact ⟨by have := (hus z hz).1; omega, (hus z hz).2⟩
      · rw [List.mem_singleton.mp hz]
        exact ⟨by omega, hyo⟩
    · rename_i h6 F6 N6 tk6 hc1 tk7 hc2 t7 k7 hlen h7 F7 N7
      show WhlNext _ _ _ _
      have hl1 : (Str.mk #[((x.fdiv 12).fmod 55296).toNat]).length = 1 := rfl
      exact ⟨i + 1, (show n - (i + 1) < n - i by omega), _, _, oJ2, us, t7, _, vs, nl, _, rfl, by omega, hJ2, hvs, (fun z hz => ⟨by have := (hus z hz).1; omega, (hus z hz).2⟩), by omega, by omega, okS_app hyo (okS_chr x), F7, (if_neg (by decide +kernel)).trans hmw, N7⟩
    · rename_i h6 F6 N6 tk6 hc1 tk7 hc2 hl1 t7 k7 hlen h7 F7 N7
      show WhlNext _ _ _ _
      exact ⟨i + 1, (show n - (i + 1) < n - i by omega), _, _, oJ2, us, t7, _, vs, nl, _, rfl, by omega, hJ2, hvs, (fun z hz => ⟨by have := (hus z hz).1; omega, (hus z hz).2⟩), by omega, by omega, okS_app hyo (okS_item x), F7, (if_neg (by decide +kernel)).trans hmw, N7⟩
  · refine next_lst_end rfl F' N' lJ hJi (.head _) (by omega) fun h2 F2 N2 => ?_
    unfold ForTurn
    dsimp only
    k_steps
    refine hret l _ _ (vs ++ [Value.str y t]) nl (us ++ [y]) (by k_asm) (by walk_at "my asm") ll (strs_snoc hvs) (by simp; omega) fun z hz => ?_
    rcases List.mem_append.mp hz with hz | hz
    · exact ⟨by have := (hus z hz).1; omega, (hus z hz).2⟩
    · rw [List.mem_singleton.mp hz]
      exact ⟨by omega, hyo⟩
end
end S7
/-- a program that says nothing -/
noncomputable def p0E : Program := { hd.view_39 with main := { hd.view_39.main with body := [Stmt.Import [{ name := Str.ofString "sys", asname := none, pos := default }] default] } }
noncomputable def loE : List Str := LW ++ (recsOf hd.view_39).map (·.name) ++ (litsOf hd.view_39).map (·.1) ++ (clssOf hd.view_39 LW).map (·.name)
theorem impE : importsNone p0E = false := by decide +kernel
section
variable {mean : ExcName → Option Value} {mg mb : Str → Option Value} {h : Heap}
theorem topE (T : Top hd.view_39 LW mean mg mb h) : Top p0E loE mean mg mb h where
  g := T.g
  b := T.b
  nolimit := T.nolimit
  nodigits := T.nodigits
  fn := fun d hd => nomatch (show d ∈ ([] : List _) from hd)
  own := fun o ho => nomatch (show o ∈ ([] : List _) from ho)
  const := fun x d hv => nomatch (show (none : Option _) = some d from hv)
  free := fun x h1 h2 _ _ _ => by
    unfold loE at h2
    simp only [List.mem_append, not_or] at h2
    exact T.free x h1 h2.1.1.1 h2.1.1.2 h2.1.2 h2.2
  builtins := T.builtins
  tab := fun d hd => nomatch (show d ∈ ([] : List _) from hd)
  bmain := T.bmain
  seer := fun hi => by rw [impE] at hi; cases hi
theorem topE_regrown {P : Addr} {ps : Array Value} {vs : Array Value} (T : Top p0E loE mean mg mb h) (hP : h.get? P = some { cls := .none, data := .fields vs }) : Top p0E loE mean mg mb (PyProof.Rows.regrown h P ps) := by
  have ns : ∀ {a : Addr} {mm : Str → Option Value}, h.Ns a mm → (PyProof.Rows.regrown h P ps).Ns a mm := fun {a mm} hn => by
    obtain ⟨o, es, ep, ho, hd, r⟩ := hn
    have ha : a ≠ P := fun e => by
      rw [e, hP] at ho
      cases ho
      cases hd
    exact ⟨o, es, ep, (regrown_other ha).trans ho, hd, r⟩
  exact {
    g := ns T.g
    b := ns T.b
    nolimit := let ⟨mc, h1, h2⟩ := T.nolimit; ⟨mc, ns h1, h2⟩
    nodigits := let ⟨mc, h1, h2⟩ := T.nodigits; ⟨mc, ns h1, h2⟩
    fn := fun d hd => nomatch (show d ∈ ([] : List _) from hd)
    own := fun o ho => nomatch (show o ∈ ([] : List _) from ho)
    const := fun x d hv => nomatch (show (none : Option _) = some d from hv)
    free := T.free
    builtins := T.builtins
    tab := fun d hd => nomatch (show d ∈ ([] : List _) from hd)
    bmain := by
      obtain ⟨bm, ob, h1, h2, h3, h4, h5, h6⟩ := T.bmain
      refine ⟨bm, ob, h1, h2, (regrown_other fun e => ?_).trans h3, h4, h5, h6⟩
      rw [e, hP] at h3
      cases h3
      cases h6
    seer := fun hi => by rw [impE] at hi; cases hi }
end
theorem join_tab {w : World} {mean : ExcName → Option Value} {mg mb : Str → Option Value} {h : Heap} (X : (hd.heap_39 w.params).In h) (T : Top hd.view_39 LW mean mg mb h) :
    ∃ P, h.IsCode 757 P #[] ∧ h.TableAt 757 P #[] ∧ P ≠ cStatics ∧ h.get? P = some { cls := .none, data := .fields #[] } := by
  suffices hh : PySem.Challenge.rw_il0144_01 = PySem.Challenge.rw_il0144_01 → (hd.heap_39 w.params).In h → ∃ P, h.IsCode 757 P #[] ∧ h.TableAt 757 P #[] ∧ P ≠ cStatics ∧ h.get? P = some { cls := .none, data := .fields #[] } from hh rfl X
  clear X
  k_fill
  intro _ X
  have hm : mg (Str.ofString "join") = some (.ref 758) := mg_of X T.g (by k_is)
  have hr : ((recsOf hd.view_39).any fun d => d.name == Str.ofString "join") = true := by decide +kernel
  obtain ⟨d, hd', hn⟩ := List.any_eq_true.mp hr
  have hn' : d.name = Str.ofString "join" := beq_iff_eq.mp hn
  obtain ⟨a, o, fd, c, P, h1, h2, h3, h4, h5, h6⟩ := T.tab d hd'
  rw [hn', hm] at h1
  injection h1 with h1
  injection h1 with h1
  subst h1
  have hX := X 758 _ (show (hd.heap_39 w.params).lookup 758 = some _ from by k_is)
  rw [hX] at h2
  injection h2 with h2
  subst h2
  injection h3 with h3
  subst h3
  injection h4 with h4
  subst h4
  refine ⟨P, h5, h6, fun e => ?_, h6.2⟩
  obtain ⟨mc, ⟨o', es, ep, ho, hdd, _⟩, _⟩ := T.nodigits
  rw [← e, h6.2] at ho
  cases ho
  cases hdd
theorem join_has (sep : Str) {p : Str} {c : Nat} (hc : c ∈ p.cps.toList) : ∀ l : List Str, p ∈ l → c ∈ (Str.join sep l).cps.toList
  | [], h => nomatch h
  | [x], h => by
    rw [List.mem_singleton.mp h] at hc
    exact hc
  | x :: y :: r, h => by
    show c ∈ (x ++ sep ++ Str.join sep (y :: r)).cps.toList
    rw [app_cps, app_cps, List.mem_append, List.mem_append]
    rcases List.mem_cons.mp h with rfl | h
    · exact .inl (.inl hc)
    · exact .inr (join_has sep hc (y :: r) h)
theorem okS_iff {x : Str} : okS x ↔ ∀ c ∈ x.cps.toList, c < 0x110000 := by
  unfold okS PyData.strOk
  rw [Array.all_eq_true']
  constructor
  · intro h c hc
    simpa using h c (by simpa using hc)
  · intro h c hc
    simpa using h c (by simpa using hc)
theorem strand_ok {x p : Str} (hx : okS x) (hp : p ∈ strands x) : okS p := by
  rw [okS_iff] at *
  intro c hc
  refine hx c ?_
  have := join_has (Str.mk #[39]) hc (strands x) hp
  rw [strands_join] at this
  exact this
theorem apo_ok {x : Str} (h : okS x) : okS (apo x) := okS_app (okS_app (okS_one (by decide)) h) (okS_one (by decide))
theorem weave_ok : ∀ {l : List Str}, (∀ x ∈ l, okS x) → ∀ t ∈ weave l, okS t
  | [], _, _, h => nomatch h
  | s :: r, hl, t, h => by
    unfold weave at h
    rcases List.mem_cons.mp h with rfl | h
    · exact apo_ok (hl s (.head _))
    · obtain ⟨u, hu, ht⟩ := List.mem_flatMap.mp h
      simp only [List.mem_cons, List.not_mem_nil, or_false] at ht
      rcases ht with rfl | rfl
      · unfold okS
        decide +kernel
      · exact apo_ok (hl u (.tail _ hu))
theorem toks_ok {ws : List Str} (h : ∀ x ∈ ws, okS x) : ∀ t ∈ toksOf ws, okS t := by
  intro t ht
  obtain ⟨x, hx, ht⟩ := List.mem_flatMap.mp ht
  unfold tokOf at ht
  split at ht
  · rw [List.mem_singleton.mp ht]
    exact h x hx
  · exact weave_ok (fun p hp => strand_ok (h x hx) hp) t ht
theorem getD_mem {es : List Str} {j : Nat} (h : j < es.length) : es.getD j (Str.ofString "") ∈ es := by
  rw [List.getD_eq_getElem?_getD, List.getElem?_eq_getElem h]
  exact List.getElem_mem h
theorem lack_mem {es os : List Str} {x : Str} (h : x ∈ lackTo es os es.length) : x ∈ es := by
  obtain ⟨j, hj, hx⟩ := List.mem_flatMap.mp h
  have hj := List.mem_range.mp hj
  unfold lkAt at hx
  split at hx
  · rw [List.mem_singleton.mp hx]
    exact getD_mem (by omega)
  · cases hx
theorem over_mem {es os : List Str} {x : Str} (h : x ∈ overTo es os es.length) : x ∈ es := by
  obtain ⟨j, hj, hx⟩ := List.mem_flatMap.mp h
  have hj := List.mem_range.mp hj
  unfold ovAt at hx
  split at hx
  · rw [List.mem_singleton.mp hx]
    exact getD_mem hj
  · cases hx
theorem arr_ex (a : Array Value) : ∃ v : List Value, a = v.toArray := ⟨a.toList, by simp⟩
theorem news_sub {h₀ h : Heap} {L : Addr} {l l' : List (Addr × Obj)} (N : News h₀ L h l) (hs : ∀ q ∈ l', q ∈ l) : News h₀ L h l' := fun q hq => N q (hs q hq)
theorem old_regrown {h : Heap} {c P : Addr} {ps : Array Value} (hT : h.TableAt c P #[]) (hcP : c ≠ P) (hP : P ≠ cStatics) : OldK h (PyProof.Rows.regrown h P ps) := by
  have hPs : (PyProof.Rows.regrown h P ps).get? P = some { cls := .none, data := .fields ps } := Heap.get?_update_self (fun _ => ({ cls := .none, data := .fields ps } : Obj)) hT.2 rfl
  refine (OldK.refl h).step_table (ps := #[]) (more := ps) hT hT ⟨?_, ?_⟩ (fun b o hb e => (Mine.regrown_other hb).trans e) hP
  · obtain ⟨o, vs, a, r⟩ := hT.1
    exact ⟨o, vs, (Mine.regrown_other hcP).trans a, r⟩
  · rw [Array.empty_append]
    exact hPs
theorem post_true (A B : List WData) : (PySem.Challenge.rw_il0144_01.row.claim.post A (WData.bool true) B) = true := by
  first | rfl | kernel_rfl | (simp [OpenLaw.row]; done)
section S8
local macro_rules | `(tactic| walk_at "call ref") => `(tactic| ((with_reducible rename StopHere => hM9); (with_reducible show wpAny _ _ (call (Value.ref _) _) _ _ _); refine hold ?_))
local macro_rules | `(tactic| walk_at "compareOp NotEq ref ref") => `(tactic| ((with_reducible rename StopHere => hM9); (with_reducible show wpAny _ _ (compareOp CmpOp.NotEq (Value.ref _) (Value.ref _)) _ _ _); refine hold ?_))
local macro_rules | `(tactic| walk_at "my sub") => `(tactic| (repeat (refine List.forall_mem_cons.mpr (And.intro (by k_mem) ?_))); exact fun _ h => nomatch h)
theorem below_of_top {p : Program} {lo : List Str} {mean : ExcName → Option Value} {mg mb : Str → Option Value} {h : Heap} (_ : Top p lo mean mg mb h) : Below callerA h [] h := below_caller h
theorem law_holds : PySem.Challenge.rw_il0144_01.Holds := by
  refine holds_law hd_said fun _ => ?_
  refine holds_open (q := hd.view_39) (loose := LQ) (Xt := XtQ) (XP := XL hd.view_39 []) (Yf := Hook.obs (kHook hd.heap_39 asK asK_eq)) (Ya := Hook.val (kHook hd.heap_39 asK asK_eq)) (YP := Hook.says (kHook hd.heap_39 asK asK_eq)) (N := 10408) hd_left (Hook.of (kHook hd.heap_39 asK asK_eq)) (Hook.keeps (kHook hd.heap_39 asK asK_eq)) (fun s e => xl_of s (Bool.and_eq_true_iff.mp e).1) XL.keeps (by rfl) (by rfl) (by rfl) (fun s e => recFacts_of (Bool.and_eq_true_iff.mp e).2) (by rfl) (by first | assumption | decide +kernel) (by decide +kernel) ⟨rfl, rfl, rfl, rfl, rfl, by decide +kernel⟩ ?hw ?hc
  case hw => w_witness2
  k_fill
  intro w s₀ s₁ mg mb G Y fa o pm cd doc dV kV ho hdo hcd hD hmg hg args vals as hpre hlay hrd hwl hlo
  have X0 := kIn_of Y
  have X9 := (Ground.X G).1
  have V9 := (Ground.X G).2
  refine Ground.open G ?_
  intro T B D TE9 TW
  try (refine guard_noD D (by decide +kernel) ?_; clear D)
  obtain ⟨bm, ob, M0⟩ := bmod_of_top T
  (try clear hmg)
  wrow_args hpre hlay hrd hwl hlo
  all_goals
    first | refine callC_kw (enter_call ?_) | refine enter_call ?_ | refine callC_kw (enter_callW ?_) | refine enter_callW ?_ | w_how
    w_top on
    have K0 := below_of_top T
    w_call any ho hdo hcd hD T F
    clear hdo
    k_drop
  (all_goals try k_fold)
  rename_i ns hs hlay0 hL1 hr1 hl2 lA lB sc ve lC hL ra w1 r0 hI hr hc1 hc2 hh1 N0
  obtain ⟨P, hC, hT, hP, hPo⟩ := join_tab X0 T
  have TE := topE T
  (try clear Y)
  (try clear X9)
  (try clear V9)
  (try clear B)
  (try clear TE9)
  (try clear TW)
  (try clear hD)
  have hSt := StopHere.mk
  k_steps
  unfold Hold
  refine words_spec (w := _) K0 F X0 TE rfl ?_ ?_ N0 hL hI (by omega) fun l1 h1 tk1 v1 n1 ws F1 N1 _ hv1 hwn hw1 => ?_
  · k_room
  · k_units
  have hwok : ∀ x ∈ ws, okS x := fun x hx => (hw1 x hx).2
  have hw100 : ∀ x ∈ ws, x.length ≤ 100 := fun x hx => Nat.le_trans (hw1 x hx).1 (by decide)
  (try clear hw1)
  (try clear F)
  (try clear N0)
  k_steps
  unfold Hold
  rename Fr _ _ _ _ => F2
  rename News _ _ _ _ => N2
  refine toks_spec (w := _) K0 F2 X0 TE rfl ?_ ?_ N2 hv1 (by omega) hw100 hwok fun l2 h3 tk3 v2 n2 F3 N3 ll2 hv2 => ?_
  · k_room
  · k_units
  have l21 : l1 < l2 := ll2 (l1, _) (.head _)
  (try clear F2)
  (try clear N2)
  (try clear ll2)
  k_steps
  unfold Hold
  rename Fr _ _ _ _ => F4
  rename News _ _ _ _ => N4
  obtain ⟨hjo, hjl⟩ := line_fits hwn hw100
  refine join_spec (w := _) F4 N4 X0 TE (fun ps => topE_regrown TE hPo) rfl ?_ ?_ hC hT hP M0 ?_ (N4.isList (.tail _ (.head _))) hv1 (by omega) (fun x hx => Nat.le_trans (hw100 x hx) (by decide)) (fun x hx => Nat.le_trans (repl_len (hw100 x hx)) (by decide)) hjo fun s5 t5 ps5 G5 hos5 X5 T5 F5 N5 => ?_
  · k_room
  · k_units
  · show AllBare s₁.gens
    rw [hg]
    exact AllBare.empty
  have K5 := below_of_top T5
  have hOld : OldK s₁.heap (PyProof.Rows.regrown s₁.heap P ps5) := old_regrown hT hC.choose_spec.choose_spec.choose_spec.choose_spec.choose_spec.choose_spec.choose_spec.choose_spec.choose_spec.choose_spec.2.2.2.2.2.2.2.2.2.2 hP
  obtain ⟨line, hline⟩ : ∃ line, line = Txt.join (Str.ofString " ") (ws.map quo) := ⟨_, rfl⟩
  have hlc : line.cps.toList = lineC ws := by rw [hline, line_cps]
  rw [← hline] at hjl ⊢
  (try clear K0)
  (try clear X0)
  (try clear TE)
  (try clear hC)
  (try clear hT)
  (try clear hP)
  (try clear M0)
  (try clear F4)
  (try clear N4)
  (try clear hjo)
  (try clear hline)
  (try clear T)
  (try clear hPo)
  k_steps
  unfold Hold
  rename Fr _ _ _ _ => F6
  rename News _ _ _ _ => N6
  have tks := toks_len hw100
  have htn : (toksOf ws).length ≤ 50000 := by omega
  have htok := toks_ok hwok
  refine split_P (w := w) K5 F6 X5 T5 rfl ?_ ?_ hjl N6 (by rw [hlc]; exact readsP cmOk_none ws) (by omega) fun S1 h7 tk7 a7 c7 F7 N7 ll7 hS1 => ?_
  · k_room
  · k_units
  obtain ⟨v7, rfl⟩ := arr_ex a7
  have hS1' : StrsAre v7 ws := hS1
  have l27 : l2 < S1 := ll7 (l2, _) (.head _)
  have l17 : l1 < S1 := ll7 (l1, _) (.tail _ (.head _))
  (try clear F6)
  (try clear N6)
  (try clear ll7)
  (try clear hS1)
  k_steps
  unfold Hold
  rename Fr _ _ _ _ => F8
  rename News _ _ _ _ => N8
  refine split_N (w := w) K5 F8 X5 T5 rfl ?_ ?_ hjl N8 (by rw [hlc]; exact readsN cmOk_none ws) (by omega) fun S2 h9 tk9 a9 c9 F9 N9 ll9 hS2 => ?_
  · k_room
  · k_units
  obtain ⟨v9, rfl⟩ := arr_ex a9
  have hS2' : StrsAre v9 (toksOf ws) := hS2
  have l79 : S1 < S2 := ll9 (S1, _) (.head _)
  (try clear F8)
  (try clear N8)
  (try clear ll9)
  (try clear hS2)
  k_steps
  unfold Hold
  rename Fr _ _ _ _ => F10
  rename News _ _ _ _ => N10
  have e10 : ∀ l : List Str, (!decide (l = l)) = false := fun l => by simp
  refine ks_ne (N10.isList (.tail _ (.head _))) (N10.isList (.tail _ (.tail _ (.tail _ (.head _))))) hS1' hv1 hwok hwok (by k_units) ?_
  rw [e10]
  k_steps
  unfold Hold
  refine ks_ne (N10.isList (.head _)) (N10.isList (.tail _ (.tail _ (.head _)))) hS2' hv2 htok htok (by k_units) ?_
  rw [e10]
  k_steps
  unfold Hold
  have N11 : News (PyProof.Rows.regrown s₁.heap P ps5) s₁.heap.objs.size _ ((S1, listOf v7.toArray c7) :: (S2, listOf v9.toArray c9) :: (l2, listOf v2.toArray n2) :: (l1, listOf v1.toArray n1) :: []) := news_sub N10 (by walk_at "my sub")
  refine uld_spec (w := w) F10 X5 T5 rfl ?_ ?_ N11 hS1' hS2' (by omega) ?_ ?_ (by omega) htn fun t1 m1 h12 tk12 vm1 vb1 nm1 nb1 ne1 F12 N12 lm1 lt1 hvm1 hvb1 => ?_
  · k_room
  · k_units
  · exact List.forall_mem_cons.mpr ⟨Nat.ne_of_lt l27, List.forall_mem_cons.mpr ⟨Nat.ne_of_lt l17, fun _ h => nomatch h⟩⟩
  · exact List.forall_mem_cons.mpr ⟨Nat.ne_of_lt (Nat.lt_trans l27 l79), List.forall_mem_cons.mpr ⟨Nat.ne_of_lt (Nat.lt_trans l17 l79), fun _ h => nomatch h⟩⟩
  rw [uld_law] at hvm1 hvb1
  dsimp only at hvm1 hvb1
  obtain ⟨w1, rfl⟩ := arr_ex vm1
  obtain ⟨x1, rfl⟩ := arr_ex vb1
  have hw1 : StrsAre w1 (lackTo ws (toksOf ws) ws.length) := hvm1
  have hx1 : StrsAre x1 (overTo (toksOf ws) ws (toksOf ws).length) := hvb1
  have lm2 : S2 < m1 := lm1 (S2, _) (.tail _ (.head _))
  have lm3 : l2 < m1 := lm1 (l2, _) (.tail _ (.tail _ (.head _)))
  have lm4 : l1 < m1 := lm1 (l1, _) (.tail _ (.tail _ (.tail _ (.head _))))
  have lm5 : S1 < m1 := lm1 (S1, _) (.head _)
  (try clear F10)
  (try clear N10)
  (try clear N11)
  (try clear hvm1)
  (try clear hvb1)
  (try clear lm1)
  k_steps
  unfold Hold
  rename Fr _ _ _ _ => F13
  rename News _ _ _ _ => N13
  have N14 : News (PyProof.Rows.regrown s₁.heap P ps5) s₁.heap.objs.size _ ((l1, listOf v1.toArray n1) :: (l2, listOf v2.toArray n2) :: (m1, listOf w1.toArray nm1) :: (S2, listOf x1.toArray nb1) :: []) := news_sub N13 (by walk_at "my sub")
  (try clear N13)
  (try clear lt1)
  refine lack_spec (w := w) K5 F13 X5 T5 rfl ?_ ?_ N14 hv1 hv2 (by omega) htn fun k1 h15 tk15 z1 nz1 F15 N15 lk1 hz1 => ?_
  · k_room
  · k_units
  (try clear F13)
  (try clear N14)
  (try clear lk1)
  k_steps
  unfold Hold
  rename Fr _ _ _ _ => F16
  rename News _ _ _ _ => N16
  have hlok : ∀ x ∈ lackTo ws (toksOf ws) ws.length, okS x := fun x hx => hwok x (lack_mem hx)
  refine ks_ne (N16.isList (by k_mem)) (N16.isList (by k_mem)) hw1 hz1 hlok hlok (by k_units) ?_
  rw [e10]
  k_steps
  unfold Hold
  have N17 : News (PyProof.Rows.regrown s₁.heap P ps5) s₁.heap.objs.size _ ((l2, listOf v2.toArray n2) :: (l1, listOf v1.toArray n1) :: (S2, listOf x1.toArray nb1) :: []) := news_sub N16 (by walk_at "my sub")
  refine over_spec (w := w) K5 F16 X5 T5 rfl ?_ ?_ N17 hv2 hv1 htn (by omega) fun k2 h18 tk18 z2 nz2 F18 N18 lk2 hz2 => ?_
  · k_room
  · k_units
  (try clear F16)
  (try clear N16)
  (try clear N17)
  (try clear lk2)
  (try clear hw1)
  (try clear hz1)
  (try clear hlok)
  have hovk : ∀ x ∈ overTo (toksOf ws) ws (toksOf ws).length, okS x := fun x hx => htok x (over_mem hx)
  k_steps
  unfold Hold
  rename Fr _ _ _ _ => F19
  rename News _ _ _ _ => N19
  refine ks_ne (N19.isList (by k_mem)) (N19.isList (by k_mem)) hx1 hz2 hovk hovk (by k_units) ?_
  rw [e10]
  have N20 := news_sub (l' := (l2, listOf v2.toArray n2) :: (l1, listOf v1.toArray n1) :: []) N19 (by walk_at "my sub")
  (try clear N19)
  (try clear N18)
  (try clear hx1)
  (try clear hz2)
  (try clear hovk)
  k_steps
  unfold Hold
  rename Fr _ _ _ _ => F21
  rename News _ _ _ _ => N21
  refine split_PC (w := w) K5 F21 X5 T5 rfl ?_ ?_ hjl N21 (by rw [hlc]; exact readsP cmOk_hash ws) (by omega) fun S3 h22 tk22 a22 c22 F22 N22 ll22 hS3 => ?_
  · k_room
  · k_units
  obtain ⟨v22, rfl⟩ := arr_ex a22
  have hS3' : StrsAre v22 ws := hS3
  have l23 : l2 < S3 := ll22 (l2, _) (.head _)
  have l13 : l1 < S3 := ll22 (l1, _) (.tail _ (.head _))
  (try clear F21)
  (try clear N21)
  (try clear ll22)
  (try clear hS3)
  k_steps
  unfold Hold
  rename Fr _ _ _ _ => F23
  rename News _ _ _ _ => N23
  refine split_NC (w := w) K5 F23 X5 T5 rfl ?_ ?_ hjl N23 (by rw [hlc]; exact readsN cmOk_hash ws) (by omega) fun S4 h24 tk24 a24 c24 F24 N24 ll24 hS4 => ?_
  · k_room
  · k_units
  obtain ⟨v24, rfl⟩ := arr_ex a24
  have hS4' : StrsAre v24 (toksOf ws) := hS4
  have l34 : S3 < S4 := ll24 (S3, _) (.head _)
  (try clear F23)
  (try clear N23)
  (try clear ll24)
  (try clear hS4)
  k_steps
  unfold Hold
  rename Fr _ _ _ _ => F25
  rename News _ _ _ _ => N25
  refine ks_ne (N25.isList (by k_mem)) (N25.isList (by k_mem)) hS3' hv1 hwok hwok (by k_units) ?_
  rw [e10]
  k_steps
  unfold Hold
  refine ks_ne (N25.isList (by k_mem)) (N25.isList (by k_mem)) hS4' hv2 htok htok (by k_units) ?_
  rw [e10]
  k_steps
  unfold Hold
  refine uld_spec (w := w) (rest := (l2, listOf v2.toArray n2) :: (l1, listOf v1.toArray n1) :: []) F25 X5 T5 rfl ?_ ?_ N25 hS4' hS3' (by omega) ?_ ?_ htn (by omega) fun t2 m2 h26 tk26 vm2 vb2 nm2 nb2 ne2 F26 N26 lm2' lt2 hvm2 hvb2 => ?_
  · k_room
  · k_units
  · exact List.forall_mem_cons.mpr ⟨Nat.ne_of_lt (Nat.lt_trans l23 l34), List.forall_mem_cons.mpr ⟨Nat.ne_of_lt (Nat.lt_trans l13 l34), fun _ h => nomatch h⟩⟩
  · exact List.forall_mem_cons.mpr ⟨Nat.ne_of_lt l23, List.forall_mem_cons.mpr ⟨Nat.ne_of_lt l13, fun _ h => nomatch h⟩⟩
  rw [uld_law] at hvm2 hvb2
  dsimp only at hvm2 hvb2
  obtain ⟨w2, rfl⟩ := arr_ex vm2
  obtain ⟨x2, rfl⟩ := arr_ex vb2
  have hw2 : StrsAre w2 (lackTo (toksOf ws) ws (toksOf ws).length) := hvm2
  have hx2 : StrsAre x2 (overTo ws (toksOf ws) ws.length) := hvb2
  have l2m : S3 < m2 := lm2' (S3, _) (.tail _ (.head _))
  have l3m : l2 < m2 := lm2' (l2, _) (.tail _ (.tail _ (.head _)))
  have l4m : l1 < m2 := lm2' (l1, _) (.tail _ (.tail _ (.tail _ (.head _))))
  have l5m : S4 < m2 := lm2' (S4, _) (.head _)
  (try clear F25)
  (try clear N25)
  (try clear hvm2)
  (try clear hvb2)
  (try clear lm2')
  k_steps
  unfold Hold
  rename Fr _ _ _ _ => F27
  rename News _ _ _ _ => N27
  have N28 : News (PyProof.Rows.regrown s₁.heap P ps5) s₁.heap.objs.size _ ((l2, listOf v2.toArray n2) :: (l1, listOf v1.toArray n1) :: (m2, listOf w2.toArray nm2) :: (S3, listOf x2.toArray nb2) :: []) := news_sub N27 (by walk_at "my sub")
  (try clear N27)
  (try clear lt2)
  refine lack_spec (w := w) K5 F27 X5 T5 rfl ?_ ?_ N28 hv2 hv1 htn (by omega) fun k3 h29 tk29 z3 nz3 F29 N29 lk3 hz3 => ?_
  · k_room
  · k_units
  (try clear F27)
  (try clear N28)
  (try clear lk3)
  k_steps
  unfold Hold
  rename Fr _ _ _ _ => F30
  rename News _ _ _ _ => N30
  have hlok2 : ∀ x ∈ lackTo (toksOf ws) ws (toksOf ws).length, okS x := fun x hx => htok x (lack_mem hx)
  refine ks_ne (N30.isList (by k_mem)) (N30.isList (by k_mem)) hw2 hz3 hlok2 hlok2 (by k_units) ?_
  rw [e10]
  k_steps
  unfold Hold
  have N31 : News (PyProof.Rows.regrown s₁.heap P ps5) s₁.heap.objs.size _ ((l1, listOf v1.toArray n1) :: (l2, listOf v2.toArray n2) :: (S3, listOf x2.toArray nb2) :: []) := news_sub N30 (by walk_at "my sub")
  refine over_spec (w := w) K5 F30 X5 T5 rfl ?_ ?_ N31 hv1 hv2 (by omega) htn fun k4 h32 tk32 z4 nz4 F32 N32 lk4 hz4 => ?_
  · k_room
  · k_units
  (try clear F30)
  (try clear N30)
  (try clear N31)
  (try clear lk4)
  (try clear hw2)
  (try clear hz3)
  (try clear hlok2)
  have hovk2 : ∀ x ∈ overTo ws (toksOf ws) ws.length, okS x := fun x hx => hwok x (over_mem hx)
  k_steps
  unfold Hold
  rename Fr _ _ _ _ => F33
  rename News _ _ _ _ => N33
  refine ks_ne (N33.isList (by k_mem)) (N33.isList (by k_mem)) hx2 hz4 hovk2 hovk2 (by k_units) ?_
  rw [e10]
  k_steps
  show GoodWG _ _ _ _ s₁ (Except.ok (Flow.ret (Value.bool true))) _
  refine ⟨.inl ⟨.bool true, .bool true, [], rfl, fun cls => ?_, .bool true, ?_, fun _ => ⟨List.nodup_nil, fun _ h => nomatch h⟩⟩, hOld.step_keeps F33.keep, hos5, G5⟩
  · rfl
  · exact post_true _ _
end S8
end Mine
theorem PySem.Challenge.cw_il0144_01_holds : PySem.Challenge.rw_il0144_01.Holds :=
  Mine.law_holds
