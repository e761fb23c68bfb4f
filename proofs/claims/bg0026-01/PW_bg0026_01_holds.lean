import PyProof.Rows.All
import Wide.All
import OpenK.AllK
import Wide.FinOn
import Open.Tops
import PySem.Challenge.RW_bg0026_01
set_option Elab.async false
set_option maxRecDepth 100000
-- part H1
section
open PySem PySem.W PyProof.Rows
set_option maxHeartbeats 0
namespace Mine
def topRunT (tb : String → Option Builtin) (p : Program) (w : World) (n₀ : Nat) (ann : Option Value) : Nat → SharedT → Thread → Option SharedT
  | 0, _, _ => none
  | n + 1, s, t => match through t with
    | true => some s
    | false => match stepOk n₀ ann t with
      | false => none
      | true => match stepT (denote tb) p w s t with
        | some (s', t') => topRunT tb p w n₀ ann n s' t'
        | none => none
theorem topRunT_of {tb : String → Option Builtin} {p : Program} {w : World} {n₀ : Nat} {ann : Option Value} : ∀ {n : Nat} {s s' : SharedT} {t : Thread}, topRunT tb p w n₀ ann n s t = some s' → topRun tb p w n₀ ann n s.abs t = some s'.abs
  | 0, _, _, _, h => by cases h
  | n + 1, s, s', t, h => by
    unfold topRunT at h
    unfold topRun
    cases ht : through t with
    | true => rw [ht] at h; cases h; rfl
    | false =>
      rw [ht] at h
      cases hk : stepOk n₀ ann t with
      | false => rw [hk] at h; cases h
      | true =>
        rw [hk] at h
        cases hs : stepT (denote tb) p w s t with
        | none => rw [hs] at h; cases h
        | some r =>
          obtain ⟨s₂, t₂⟩ := r
          rw [hs] at h
          rw [stepT_spec hs]
          exact topRunT_of h
def btPush : List Obj → BT → Nat → Option BT
  | [], t, _ => some t
  | o :: r, t, n => match ((t.ins n o).get n).isSome with
    | true => btPush r (t.ins n o) (n + 1)
    | false => none
theorem btPush_of {life : Life} : ∀ {l : List Obj} {t t' : BT} {n : Nat}, btPush l t n = some t' → absHeap t' (n + l.length) life = ⟨(absHeap t n life).objs ++ l.toArray, life⟩
  | [], t, t', n, h => by
    cases h
    simp [absHeap]
  | o :: r, t, t', n, h => by
    unfold btPush at h
    cases g : ((t.ins n o).get n).isSome with
    | false => rw [g] at h; cases h
    | true =>
      rw [g] at h
      have := btPush_of (life := life) h
      rw [absHeap_ins g] at this
      rw [List.length_cons, show n + (r.length + 1) = n + 1 + r.length by omega, this]
      simp [Heap.push, absHeap]
def ofShared (s : Shared) : Option SharedT := (btPush s.heap.objs.toList .nil 0).map fun T => ⟨T, s.heap.objs.size, s.heap.life, s.gens, s.drawn, s.toks, s.os⟩
theorem ofShared_of {s : Shared} {t : SharedT} (h : ofShared s = some t) : t.abs = s := by
  obtain ⟨⟨⟨objs⟩, life⟩, gens, drawn, toks, os⟩ := s
  obtain ⟨T, hT, rfl⟩ := Option.map_eq_some_iff.mp h
  have := btPush_of (life := life) hT
  simp only [Nat.zero_add] at this
  show Shared.mk (absHeap T objs.length life) _ _ _ _ = _
  rw [this]
  simp [absHeap, BT.list]
def openT {β : Type} (tb : String → Option Builtin) (p : Program) (w : World) (N : Nat) (f : Shared → β) : Option β :=
  (fencedOpening tb p w N).bind fun s₀ => match s₀.heap.isNs mainGlobals && s₀.gens.size == 0 with
    | true => (ofShared s₀).bind fun t₀ => (topRunT tb p w s₀.heap.objs.size (s₀.heap.nsMap mainGlobals "__annotations__") N t₀ (topStub p)).bind fun t₁ =>
        match staticsOk (importedModules p.main.body) s₀.heap t₁.abs.heap && namesBound p t₁.abs.heap && gensDone t₁.abs && laidKept s₀.heap t₁.abs.heap with
        | true => some (f t₁.abs)
        | false => none
    | false => none
theorem openT_of {β : Type} {tb : String → Option Builtin} {p : Program} {w : World} {N : Nat} {f : Shared → β} {x : β} (h : openT tb p w N f = some x) : (openEnds tb p w N).map f = some x := by
  unfold openT at h
  obtain ⟨s₀, h0, h⟩ := Option.bind_eq_some_iff.mp h
  unfold openEnds
  rw [h0, Option.bind_some]
  unfold topFrom
  cases hg : (s₀.heap.isNs mainGlobals && s₀.gens.size == 0) with
  | false => rw [hg] at h; cases h
  | true =>
    rw [hg] at h
    obtain ⟨t₀, h1, h⟩ := Option.bind_eq_some_iff.mp h
    obtain ⟨t₁, h2, h⟩ := Option.bind_eq_some_iff.mp h
    have e := topRunT_of h2
    rw [ofShared_of h1] at e
    dsimp only
    rw [e, Option.bind_some]
    cases hs : (staticsOk (importedModules p.main.body) s₀.heap t₁.abs.heap && namesBound p t₁.abs.heap && gensDone t₁.abs && laidKept s₀.heap t₁.abs.heap) with
    | false => rw [hs] at h; cases h
    | true => rw [hs] at h; cases h; rfl
end Mine
end
-- part SH12
section
open PySem PySem.W PyProof.Rows
set_option maxHeartbeats 0
namespace Mine
open_shared top for PySem.Challenge.pw_bg0026_01 leaving 12
end Mine
end
-- part H6
section
open PySem PySem.W PyProof.Rows
set_option maxHeartbeats 0
namespace Mine
noncomputable abbrev PW : Program := PySem.Challenge.pw_bg0026_01
abbrev ann0 : Option Value := some (.ref 6)
noncomputable abbrev env0 : Env := top.env_1
noncomputable abbrev bAll : List Stmt := behindTheImports PW
noncomputable abbrev cE : Code := .body bAll env0
abbrev p0 : Pos := ⟨0, 0, 0, 0⟩
abbrev pK : Pos := ⟨225, 0, 225, 27⟩
abbrev pZ : Pos := ⟨523, 0, 568, 47⟩
noncomputable abbrev sB (w : World) (os : OsState) : SharedT := { tree := top.tree_33 w.params, n := 33, life := {}, gens := { toList := [] }, drawn := {}, toks := 279, os := os }
noncomputable abbrev sK (w : World) (os : OsState) : SharedT := { tree := top.tree_552 w.params, n := 447, life := {}, gens := { toList := [] }, drawn := {}, toks := 804, os := os }
noncomputable def restS : List Stmt := bAll.drop 23
theorem body_split : bAll = top.sts_33 ++ (top.sts_63 ++ (top.sts_121 ++ (top.sts_145 ++ (top.sts_184 ++ (top.sts_218 ++ (top.sts_222 ++ (top.sts_261 ++ (top.sts_265 ++ (top.sts_292 ++ (top.sts_296 ++ (top.sts_471 ++ (top.sts_475 ++ (top.sts_550 ++ (restS ++ [])))))))))))))) := by kernel_rfl
noncomputable def topGoT (tb : String → Option Builtin) (p : Program) (w : World) (n₀ : Nat) (ann : Option Value) : Nat → SharedT → Thread → Option (SharedT × Thread)
  | 0, s, t => some (s, t)
  | n + 1, s, t => match through t with
    | true => none
    | false => match stepOk n₀ ann t with
      | false => none
      | true => match stepT (denote tb) p w s t with
        | some (s', t') => topGoT tb p w n₀ ann n s' t'
        | none => none
section
variable {tb : String → Option Builtin} {p : Program} {w : World} {n₀ : Nat} {ann : Option Value}
theorem topGoT_of : ∀ {n : Nat} {s s' : SharedT} {t t' : Thread}, topGoT tb p w n₀ ann n s t = some (s', t') → topGo tb p w n₀ ann n s.abs t = some (s'.abs, t')
  | 0, _, _, _, _, h => by cases h; rfl
  | n + 1, s, s', t, t', h => by
    unfold topGoT at h
    unfold topGo
    cases ht : through t with
    | true => rw [ht] at h; cases h
    | false =>
      rw [ht] at h
      cases hk : stepOk n₀ ann t with
      | false => rw [hk] at h; cases h
      | true =>
        rw [hk] at h
        cases hs : stepT (denote tb) p w s t with
        | none => rw [hs] at h; cases h
        | some r =>
          obtain ⟨s₂, t₂⟩ := r
          rw [hs] at h
          rw [stepT_spec hs]
          exact topGoT_of h
theorem stepOk_os {t : Thread} (h : stepOk n₀ ann t = true) : (match t.cur with | .os .. => false | _ => true) = true := by
  unfold stepOk at h
  have h2 := (Bool.and_eq_true_iff.mp h).2
  obtain ⟨cur, code, pos, stack⟩ := t
  cases cur <;> first | rfl | exact h2
theorem topGo_os : ∀ {n : Nat} {s s' : Shared} {t t' : Thread}, topGo tb p w n₀ ann n s t = some (s', t') → s'.os = s.os
  | 0, _, _, _, _, h => by cases h; rfl
  | n + 1, s, s', t, t', h => by
    unfold topGo at h
    cases ht : through t with
    | true => rw [ht] at h; cases h
    | false =>
      rw [ht] at h
      cases hk : stepOk n₀ ann t with
      | false => rw [hk] at h; cases h
      | true =>
        rw [hk] at h
        cases hs : step (denote tb) p w s t with
        | halt o s₂ => rw [hs] at h; cases h
        | go s₂ t₂ => rw [hs] at h; exact (topGo_os h).trans (step_os_same hs (stepOk_os hk))
end
noncomputable def thrB : Thread := ⟨denote treeTable cE, cE, p0, [topFrame p0]⟩
noncomputable def headOf {β : Type} (w : World) (os : OsState) (f : Shared → β) : Option (Nat × Option Value × (BT × Nat × Life × Array GenState × Drawn × Nat) × Thread × Flow × Code × Pos × β) :=
  (fencedOpening treeTable PW w 17826).bind fun s₀ => cond (s₀.heap.isNs mainGlobals && s₀.gens.size == 0)
    ((ofShared s₀).bind fun t₀ => (topGoT treeTable PW w 29 ann0 12 t₀ (topStub PW)).bind fun r => (segRunT treeTable PW w 29 ann0 1 4900 (sK w os) (piecesOf restS env0 cE pK [topFrame p0])).bind fun q =>
        cond (staticsOk (importedModules PW.main.body) s₀.heap q.2.1.abs.heap && namesBound PW q.2.1.abs.heap && gensDone q.2.1.abs && laidKept s₀.heap q.2.1.abs.heap)
          (some (s₀.heap.objs.size, s₀.heap.nsMap mainGlobals "__annotations__", (r.1.tree, r.1.n, r.1.life, r.1.gens, r.1.drawn, r.1.toks), r.2, q.1, q.2.2.1, q.2.2.2, f q.2.1.abs)) none) none
theorem block_ok (w : World) (s : Shared) : segRun treeTable PW w 29 ann0 1 1 s (blockOf bAll env0 cE p0 [topFrame p0]) = some (.next, s, cE, p0) := by kernel_rfl
theorem fin_ok (w : World) (s : Shared) : topRun treeTable PW w 29 ann0 2 s ⟨doneF .next, cE, pZ, [topFrame p0]⟩ = some s := by
  obtain ⟨⟨objs, life⟩, gens, drawn, toks, os⟩ := s
  kernel_rfl
theorem topRun_le {tb : String → Option Builtin} {p : Program} {w : World} {n₀ : Nat} {ann : Option Value} {M N : Nat} {s r : Shared} {t : Thread} (h : topRun tb p w n₀ ann M s t = some r) (hle : Nat.ble M N = true) : topRun tb p w n₀ ann N s t = some r := by
  have := topRun_mono (N - M) M s t r h
  rwa [Nat.add_sub_cancel' (Nat.le_of_ble_eq_true hle)] at this
theorem left_of {β : Type} {f : Shared → β} {good : World → β} (h : ∀ w os, headOf w os f = some (29, ann0, (top.tree_33 w.params, 33, {}, { toList := [] }, {}, 279), thrB, .next, cE, pZ, good w)) (w : World) :
    (openEnds treeTable PW w 17826).map f = some (good w) := by
  have hw := h w (start (opening PW)).1.os
  unfold headOf at hw
  obtain ⟨s₀, h0, _⟩ := Option.bind_eq_some_iff.mp hw
  clear hw
  have h := h w s₀.os
  unfold headOf at h
  rw [h0, Option.bind_some] at h
  unfold openEnds
  rw [h0, Option.bind_some]
  unfold topFrom
  cases hg : (s₀.heap.isNs mainGlobals && s₀.gens.size == 0) with
  | false => rw [hg] at h; cases h
  | true =>
    rw [hg, cond_true] at h
    obtain ⟨t₀, h1, h⟩ := Option.bind_eq_some_iff.mp h
    obtain ⟨⟨r, tr⟩, h2, h⟩ := Option.bind_eq_some_iff.mp h
    obtain ⟨⟨fl, t₁, c₁, p₁⟩, h3, h⟩ := Option.bind_eq_some_iff.mp h
    cases hs : (staticsOk (importedModules PW.main.body) s₀.heap t₁.abs.heap && namesBound PW t₁.abs.heap && gensDone t₁.abs && laidKept s₀.heap t₁.abs.heap) with
    | false => rw [hs] at h; cases h
    | true =>
      rw [hs, cond_true] at h
      simp only [Option.some.injEq, Prod.mk.injEq] at h
      obtain ⟨e1, e2, ⟨e3, e4, e5, e6, e7, e8⟩, e9, e10, e11, e12, e13⟩ := h
      subst e10 e11 e12
      have g2 := topGoT_of h2
      have hos := topGo_os g2
      rw [ofShared_of h1] at g2 hos
      have er : r = sB w s₀.os := by
        obtain ⟨a1, a2, a3, a4, a5, a6, a7⟩ := r
        simp only at e3 e4 e5 e6 e7 e8
        have e0 : a7 = s₀.os := hos
        subst e3 e4 e5 e6 e7 e8 e0
        rfl
      subst er
      rw [e9] at g2
      have k1 := piece_app (rest := []) (segRun_of h3) (piece_nil (fin_ok w t₁.abs))
      have k2 := top.chain PW bAll w s₀.os (restS ++ []) _ t₁.abs k1
      rw [← body_split] at k2
      have k3 := piece_block (block_ok w (sB w s₀.os).abs) k2
      have k4 := go_top g2 k3
      have e1' : s₀.heap.objs.size = 29 := e1
      dsimp only
      rw [e1', e2]
      have en : topRun treeTable PW w 29 ann0 17826 s₀ (topStub PW) = some t₁.abs := topRun_le k4 (by kernel_rfl)
      rw [en, Option.bind_some, hs]
      exact congrArg some e13
end Mine
namespace Mine
noncomputable def dmyA : Str := Str.ofString "x"
theorem dmyA_self : dmyA = dmyA := rfl
name_quick mineDmyA for Mine.dmyA by Mine.dmyA_self
end Mine
namespace Mine
lay_quick Mine.restS Mine.topGoT Mine.btPush Mine.ofShared Mine.thrB Mine.headOf Mine.sB Mine.sK
end Mine
end
-- part H7
section
open PySem PySem.W PyProof.Rows
set_option maxHeartbeats 0
namespace Mine
noncomputable def dmyB : Str := Str.ofString "x"
theorem dmyB_self : dmyB = dmyB := rfl
name_quick mineDmyB for Mine.dmyB by Mine.dmyB_self
end Mine
namespace Mine
-- the functions' texts, read off the program
noncomputable def stAt (i : Nat) : Stmt := PW.main.body.getD i (.Pass ⟨0, 0, 0, 0⟩)
def stIn : Stmt → Nat → Stmt
  | .ClassDef _ _ _ b _ _ _ _ _ _ _, j => b.getD j (.Pass ⟨0, 0, 0, 0⟩)
  | s, _ => s
noncomputable def stFn (i : Nat) : Option Nat → Stmt
  | none => stAt i
  | some j => stIn (stAt i) j
def fdOf : Stmt → Option (Arguments × List Stmt × Scope)
  | .FunctionDef _ a b _ _ _ s _ _ _ => some (a, b, s)
  | _ => none
noncomputable def fnA (i : Nat) (j : Option Nat) : Arguments := match fdOf (stFn i j) with
  | some x => x.1
  | none => { posonlyargs := [], args := [], vararg := none, kwonlyargs := [], kw_defaults := [], kwarg := none, defaults := [] }
noncomputable def fnB (i : Nat) (j : Option Nat) : List Stmt := match fdOf (stFn i j) with
  | some x => x.2.1
  | none => []
noncomputable def fnS (i : Nat) (j : Option Nat) : Scope := match fdOf (stFn i j) with
  | some x => x.2.2
  | none => { kind := .function, names := [], isGenerator := false, isCoroutine := false, more := [] }
-- what the top leaves, as far as the law reaches it
noncomputable def KF (P : Params) : Frag := 
  (nat_lit 2, ⟨.none, none, (.dict #[⟨PyData.keyHash P "\x69mport.loaded._collections", (.str "\x69mport.loaded._collections" 185), (.bool true)⟩, ⟨PyData.keyHash P "class._frozen_importlib.BuiltinImporter", (.str "class._frozen_importlib.BuiltinImporter" 187), (.ref 15)⟩, ⟨PyData.keyHash P "watched.\x69mport", (.str "watched.\x69mport" 208), (.ref 19)⟩, ⟨PyData.keyHash P "class._frozen_importlib.ModuleSpec", (.str "class._frozen_importlib.ModuleSpec" 218), (.ref 23)⟩, ⟨PyData.keyHash P "sys.modules.booked-epoch", (.str "sys.modules.booked-epoch" 247), (.int (3) 0)⟩, ⟨PyData.keyHash P "sys.modules.landed._collections", (.str "sys.modules.landed._collections" 248), (.bool true)⟩, ⟨PyData.keyHash P "\x69mport.later-laid._collections", (.str "\x69mport.later-laid._collections" 263), (.bool true)⟩, ⟨PyData.keyHash P "watched.library", (.str "watched.library" 265), (.ref 28)⟩, ⟨PyData.keyHash P "watched.library-objects", (.str "watched.library-objects" 0), (.str "\x0d" 0)⟩, ⟨PyData.keyHash P "watched.library-deep._collections", (.str "watched.library-deep._collections" 266), (.str "\x04\x00\x00\x0c\x04\x00\x00\x0c\x04\x00\x00\x03\x04\x00\x00\x0c\x08\x04dict\x02" 0)⟩] 10), #[]⟩) ::
  (nat_lit 3, ⟨(.type "dict"), none, (.dict #[⟨PyData.keyHash P "__name__", (.str "__name__" 165), (.str "law_bg0026_01" 1388)⟩, ⟨PyData.keyHash P "__doc__", (.str "__doc__" 166), .none⟩, ⟨PyData.keyHash P "__package__", (.str "__package__" 167), .none⟩, ⟨PyData.keyHash P "__loader__", (.str "__loader__" 168), (.builtin "__main__.__loader__#opaque")⟩, ⟨PyData.keyHash P "__spec__", (.str "__spec__" 169), .none⟩, ⟨PyData.keyHash P "__annotations__", (.str "__annotations__" 170), (.ref 6)⟩, ⟨PyData.keyHash P "__builtins__", (.str "__builtins__" 171), (.ref 4)⟩, ⟨PyData.keyHash P "__file__", (.str "__file__" 173), (.str "/claim/cut.py" 172)⟩, ⟨PyData.keyHash P "__cached__", (.str "__cached__" 174), .none⟩, ⟨PyData.keyHash P "deque", (.str "deque" 272), (.type "collections.deque")⟩, ⟨PyData.keyHash P "_wall", (.str "_wall" 285), (.ref 39)⟩, ⟨PyData.keyHash P "ABCMeta", (.str "ABCMeta" 311), (.ref 56)⟩, ⟨PyData.keyHash P "_ABCLike", (.str "_ABCLike" 354), (.ref 89)⟩, ⟨PyData.keyHash P "_abc_plain_meta", (.str "_abc_plain_meta" 361), (.ref 98)⟩, ⟨PyData.keyHash P "_abc_has_iter", (.str "_abc_has_iter" 368), (.ref 105)⟩, ⟨PyData.keyHash P "_abc_has_len", (.str "_abc_has_len" 375), (.ref 112)⟩, ⟨PyData.keyHash P "_abc_has_contains", (.str "_abc_has_contains" 382), (.ref 119)⟩, ⟨PyData.keyHash P "_abc_is_mappingproxy", (.str "_abc_is_mappingproxy" 389), (.ref 126)⟩, ⟨PyData.keyHash P "_abc_is_builtin_collection", (.str "_abc_is_builtin_collection" 396), (.ref 133)⟩, ⟨PyData.keyHash P "Iterable", (.str "Iterable" 437), (.ref 166)⟩, ⟨PyData.keyHash P "Sized", (.str "Sized" 474), (.ref 196)⟩, ⟨PyData.keyHash P "Container", (.str "Container" 521), (.ref 232)⟩, ⟨PyData.keyHash P "Collection", (.str "Collection" 551), (.ref 255)⟩, ⟨PyData.keyHash P "Set", (.str "Set" 708), (.ref 371)⟩, ⟨PyData.keyHash P "Mapping", (.str "Mapping" 796), (.ref 443)⟩, ⟨PyData.keyHash P "MappingView", (.str "MappingView" 864), (.ref 493)⟩, ⟨PyData.keyHash P "KeysView", (.str "KeysView" 924), (.ref 540)⟩, ⟨PyData.keyHash P "ItemsView", (.str "ItemsView" 988), (.ref 585)⟩, ⟨PyData.keyHash P "ValuesView", (.str "ValuesView" 1031), (.ref 620)⟩, ⟨PyData.keyHash P "MutableMapping", (.str "MutableMapping" 1118), (.ref 695)⟩, ⟨PyData.keyHash P "Cache", (.str "Cache" 1305), (.ref 830)⟩, ⟨PyData.keyHash P "LRUCache", (.str "LRUCache" 1387), (.ref 897)⟩, ⟨PyData.keyHash P "_law_front", (.str "_law_front" 1402), (.ref 906)⟩, ⟨PyData.keyHash P "law", (.str "law" 1424), (.ref 913)⟩] 34), #[]⟩) ::
  (nat_lit 55, ⟨(.type "dict"), none, (.dict #[⟨PyData.keyHash P "__module__", (.str "__module__" 295), (.str "abc" 286)⟩, ⟨PyData.keyHash P "__firstlineno__", (.str "__firstlineno__" 299), (.int (6) 298)⟩, ⟨PyData.keyHash P "register", (.str "register" 307), (.ref 53)⟩, ⟨PyData.keyHash P "__static_attributes__", (.str "__static_attributes__" 308), (.ref 54)⟩, ⟨PyData.keyHash P "__doc__", (.str "__doc__" 309), .none⟩] 2), #[]⟩) ::
  (nat_lit 56, ⟨(.type "type"), none, (.cls { name := "ABCMeta", bases := [(.type "type")], mro := [(.ref 56), (.type "type"), (.type "object")], ns := 55, qualname := "ABCMeta", hasDict := true, slotNames := [], subclasses := [(.ref 89)], abstract := false, collection := none, hasDel := false }), #[(some (.ref 40)), none, (some (.str "ABCMeta" 288)), (some (.str "ABCMeta" 296)), (some (.builtin "type.__new__")), (some (.bool true))]⟩) ::
  (nat_lit 88, ⟨(.type "dict"), none, (.dict #[⟨PyData.keyHash P "__module__", (.str "__module__" 321), (.str "collections.abc" 312)⟩, ⟨PyData.keyHash P "__firstlineno__", (.str "__firstlineno__" 325), (.int (11) 324)⟩, ⟨PyData.keyHash P "__instancecheck__", (.str "__instancecheck__" 334), (.ref 72)⟩, ⟨PyData.keyHash P "__subclasscheck__", (.str "__subclasscheck__" 342), (.ref 79)⟩, ⟨PyData.keyHash P "register", (.str "register" 350), (.ref 86)⟩, ⟨PyData.keyHash P "__static_attributes__", (.str "__static_attributes__" 351), (.ref 87)⟩, ⟨PyData.keyHash P "__doc__", (.str "__doc__" 352), .none⟩] 2), #[]⟩) ::
  (nat_lit 89, ⟨(.type "type"), none, (.cls { name := "_ABCLike", bases := [(.ref 56)], mro := [(.ref 89), (.ref 56), (.type "type"), (.type "object")], ns := 88, qualname := "_ABCLike", hasDict := true, slotNames := [], subclasses := [], abstract := false, collection := none, hasDel := false }), #[(some (.ref 59)), none, (some (.str "_ABCLike" 314)), (some (.str "_ABCLike" 322)), (some (.builtin "type.__new__")), (some (.bool true))]⟩) ::
  (nat_lit 165, ⟨(.type "dict"), none, (.dict #[⟨PyData.keyHash P "__module__", (.str "__module__" 404), (.str "collections.abc" 312)⟩, ⟨PyData.keyHash P "__firstlineno__", (.str "__firstlineno__" 408), (.int (42) 407)⟩, ⟨PyData.keyHash P "__slots__", (.str "__slots__" 409), (.ref 141)⟩, ⟨PyData.keyHash P "__iter__", (.str "__iter__" 416), (.ref 148)⟩, ⟨PyData.keyHash P "_abc_kind", (.str "_abc_kind" 424), (.ref 155)⟩, ⟨PyData.keyHash P "__class_getitem__", (.str "__class_getitem__" 432), (.ref 167)⟩, ⟨PyData.keyHash P "__static_attributes__", (.str "__static_attributes__" 433), (.ref 163)⟩, ⟨PyData.keyHash P "__doc__", (.str "__doc__" 435), .none⟩, ⟨PyData.keyHash P "__abstractmethods__", (.str "__abstractmethods__" 442), (.ref 170)⟩] 3), #[]⟩) ::
  (nat_lit 166, ⟨(.ref 89), none, (.cls { name := "Iterable", bases := [(.type "object")], mro := [(.ref 166), (.type "object")], ns := 165, qualname := "Iterable", hasDict := false, slotNames := [], subclasses := [(.ref 255)], abstract := true, collection := none, hasDel := false }), #[none, none, (some (.str "Iterable" 397)), (some (.str "Iterable" 405)), (some (.builtin "object.__new__")), (some (.bool false))]⟩) ::
  (nat_lit 195, ⟨(.type "dict"), none, (.dict #[⟨PyData.keyHash P "__module__", (.str "__module__" 450), (.str "collections.abc" 312)⟩, ⟨PyData.keyHash P "__firstlineno__", (.str "__firstlineno__" 454), (.int (58) 453)⟩, ⟨PyData.keyHash P "__slots__", (.str "__slots__" 455), (.ref 178)⟩, ⟨PyData.keyHash P "__len__", (.str "__len__" 462), (.ref 185)⟩, ⟨PyData.keyHash P "_abc_kind", (.str "_abc_kind" 470), (.ref 192)⟩, ⟨PyData.keyHash P "__static_attributes__", (.str "__static_attributes__" 471), (.ref 193)⟩, ⟨PyData.keyHash P "__doc__", (.str "__doc__" 472), .none⟩, ⟨PyData.keyHash P "__abstractmethods__", (.str "__abstractmethods__" 479), (.ref 199)⟩] 3), #[]⟩) ::
  (nat_lit 196, ⟨(.ref 89), none, (.cls { name := "Sized", bases := [(.type "object")], mro := [(.ref 196), (.type "object")], ns := 195, qualname := "Sized", hasDict := false, slotNames := [], subclasses := [(.ref 255), (.ref 493)], abstract := true, collection := none, hasDel := false }), #[none, none, (some (.str "Sized" 443)), (some (.str "Sized" 451)), (some (.builtin "object.__new__")), (some (.bool false))]⟩) ::
  (nat_lit 231, ⟨(.type "dict"), none, (.dict #[⟨PyData.keyHash P "__module__", (.str "__module__" 487), (.str "collections.abc" 312)⟩, ⟨PyData.keyHash P "__firstlineno__", (.str "__firstlineno__" 491), (.int (70) 490)⟩, ⟨PyData.keyHash P "__slots__", (.str "__slots__" 492), (.ref 207)⟩, ⟨PyData.keyHash P "__contains__", (.str "__contains__" 500), (.ref 214)⟩, ⟨PyData.keyHash P "_abc_kind", (.str "_abc_kind" 508), (.ref 221)⟩, ⟨PyData.keyHash P "__class_getitem__", (.str "__class_getitem__" 516), (.ref 233)⟩, ⟨PyData.keyHash P "__static_attributes__", (.str "__static_attributes__" 517), (.ref 229)⟩, ⟨PyData.keyHash P "__doc__", (.str "__doc__" 519), .none⟩, ⟨PyData.keyHash P "__abstractmethods__", (.str "__abstractmethods__" 526), (.ref 236)⟩] 3), #[]⟩) ::
  (nat_lit 232, ⟨(.ref 89), none, (.cls { name := "Container", bases := [(.type "object")], mro := [(.ref 232), (.type "object")], ns := 231, qualname := "Container", hasDict := false, slotNames := [], subclasses := [(.ref 255)], abstract := true, collection := none, hasDel := false }), #[none, none, (some (.str "Container" 480)), (some (.str "Container" 488)), (some (.builtin "object.__new__")), (some (.bool false))]⟩) ::
  (nat_lit 254, ⟨(.type "dict"), none, (.dict #[⟨PyData.keyHash P "__module__", (.str "__module__" 534), (.str "collections.abc" 312)⟩, ⟨PyData.keyHash P "__firstlineno__", (.str "__firstlineno__" 538), (.int (85) 537)⟩, ⟨PyData.keyHash P "__slots__", (.str "__slots__" 539), (.ref 244)⟩, ⟨PyData.keyHash P "_abc_kind", (.str "_abc_kind" 547), (.ref 251)⟩, ⟨PyData.keyHash P "__static_attributes__", (.str "__static_attributes__" 548), (.ref 252)⟩, ⟨PyData.keyHash P "__doc__", (.str "__doc__" 549), .none⟩, ⟨PyData.keyHash P "__abstractmethods__", (.str "__abstractmethods__" 558), (.ref 258)⟩] 3), #[]⟩) ::
  (nat_lit 255, ⟨(.ref 89), none, (.cls { name := "Collection", bases := [(.ref 196), (.ref 166), (.ref 232)], mro := [(.ref 255), (.ref 196), (.ref 166), (.ref 232), (.type "object")], ns := 254, qualname := "Collection", hasDict := false, slotNames := [], subclasses := [(.ref 371), (.ref 443), (.ref 620)], abstract := true, collection := none, hasDel := false }), #[(some (.ref 237)), none, (some (.str "Collection" 527)), (some (.str "Collection" 535)), (some (.builtin "object.__new__")), (some (.bool false))]⟩) ::
  (nat_lit 442, ⟨(.type "dict"), none, (.dict #[⟨PyData.keyHash P "__module__", (.str "__module__" 723), (.str "collections.abc" 312)⟩, ⟨PyData.keyHash P "__firstlineno__", (.str "__firstlineno__" 727), (.int (185) 726)⟩, ⟨PyData.keyHash P "__slots__", (.str "__slots__" 728), (.ref 382)⟩, ⟨PyData.keyHash P "__getitem__", (.str "__getitem__" 736), (.ref 389)⟩, ⟨PyData.keyHash P "get", (.str "get" 745), (.ref 397)⟩, ⟨PyData.keyHash P "__contains__", (.str "__contains__" 753), (.ref 404)⟩, ⟨PyData.keyHash P "keys", (.str "keys" 760), (.ref 411)⟩, ⟨PyData.keyHash P "items", (.str "items" 767), (.ref 418)⟩, ⟨PyData.keyHash P "values", (.str "values" 774), (.ref 425)⟩, ⟨PyData.keyHash P "__eq__", (.str "__eq__" 782), (.ref 432)⟩, ⟨PyData.keyHash P "__reversed__", (.str "__reversed__" 783), .none⟩, ⟨PyData.keyHash P "_abc_kind", (.str "_abc_kind" 791), (.ref 439)⟩, ⟨PyData.keyHash P "__static_attributes__", (.str "__static_attributes__" 792), (.ref 440)⟩, ⟨PyData.keyHash P "__doc__", (.str "__doc__" 793), .none⟩, ⟨PyData.keyHash P "__hash__", (.str "__hash__" 794), .none⟩, ⟨PyData.keyHash P "__abstractmethods__", (.str "__abstractmethods__" 803), (.ref 446)⟩] 4), #[]⟩) ::
  (nat_lit 443, ⟨(.ref 89), none, (.cls { name := "Mapping", bases := [(.ref 255)], mro := [(.ref 443), (.ref 255), (.ref 196), (.ref 166), (.ref 232), (.type "object")], ns := 442, qualname := "Mapping", hasDict := false, slotNames := [], subclasses := [(.ref 695)], abstract := true, collection := none, hasDel := false }), #[(some (.ref 375)), none, (some (.str "Mapping" 716)), (some (.str "Mapping" 724)), (some (.builtin "object.__new__")), (some (.bool false))]⟩) ::
  (nat_lit 694, ⟨(.type "dict"), none, (.dict #[⟨PyData.keyHash P "__module__", (.str "__module__" 1039), (.str "collections.abc" 312)⟩, ⟨PyData.keyHash P "__firstlineno__", (.str "__firstlineno__" 1043), (.int (309) 1042)⟩, ⟨PyData.keyHash P "__slots__", (.str "__slots__" 1044), (.ref 630)⟩, ⟨PyData.keyHash P "__setitem__", (.str "__setitem__" 1053), (.ref 637)⟩, ⟨PyData.keyHash P "__delitem__", (.str "__delitem__" 1061), (.ref 644)⟩, ⟨PyData.keyHash P "_MutableMapping__marker", (.str "_MutableMapping__marker" 1062), (.ref 645)⟩, ⟨PyData.keyHash P "pop", (.str "pop" 1072), (.ref 653)⟩, ⟨PyData.keyHash P "popitem", (.str "popitem" 1081), (.ref 660)⟩, ⟨PyData.keyHash P "clear", (.str "clear" 1088), (.ref 667)⟩, ⟨PyData.keyHash P "update", (.str "update" 1097), (.ref 676)⟩, ⟨PyData.keyHash P "setdefault", (.str "setdefault" 1106), (.ref 684)⟩, ⟨PyData.keyHash P "_abc_kind", (.str "_abc_kind" 1114), (.ref 691)⟩, ⟨PyData.keyHash P "__static_attributes__", (.str "__static_attributes__" 1115), (.ref 692)⟩, ⟨PyData.keyHash P "__doc__", (.str "__doc__" 1116), .none⟩, ⟨PyData.keyHash P "__abstractmethods__", (.str "__abstractmethods__" 1127), (.ref 698)⟩] 3), #[]⟩) ::
  (nat_lit 695, ⟨(.ref 89), none, (.cls { name := "MutableMapping", bases := [(.ref 443)], mro := [(.ref 695), (.ref 443), (.ref 255), (.ref 196), (.ref 166), (.ref 232), (.type "object")], ns := 694, qualname := "MutableMapping", hasDict := false, slotNames := [], subclasses := [(.ref 830)], abstract := true, collection := none, hasDel := false }), #[(some (.ref 623)), none, (some (.str "MutableMapping" 1032)), (some (.str "MutableMapping" 1040)), (some (.builtin "object.__new__")), (some (.bool false))]⟩) ::
  (nat_lit 706, ⟨(.type "object"), none, .plain, #[]⟩) ::
  (nat_lit 707, ⟨(.type "tuple"), none, (.seq #[.none] 0), #[]⟩) ::
  (nat_lit 713, ⟨(.type "code"), none, (.fields #[(.str "__init__" 1144), (.str "Cache.__init__" 1145), (.str "/claim/cut.py" 1146), (.int (363) 0), (.int (3) 0), (.int (0) 0), (.int (0) 0), (.int (3) 0), (.ref 708), (.bool true), (.int (273) 0), (.ref 709), .none, (.ref 710), (.ref 711), (.ref 712), (.int (1150) 0), (.int (363) 0), (.str "/claim/cut.py" 1151)]), #[]⟩) ::
  (nat_lit 714, ⟨(.type "function"), none, (.func { name := "__init__", qualname := "Cache.__init__", params := fnA 31 (some 2), body := .stmts (fnB 31 (some 2)), scope := fnS 31 (some 2), globals := 3, closure := [], defaults := (.ref 707), kwdefaults := .none, doc := .none, pyModule := (.str "cachetools" 1128), annotations := none, code := (.ref 713), closureTuple := .none, builtins := 0 }), #[]⟩) ::
  (nat_lit 727, ⟨(.type "code"), none, (.fields #[(.str "__getitem__" 1160), (.str "Cache.__getitem__" 1161), (.str "/claim/cut.py" 1162), (.int (377) 0), (.int (2) 0), (.int (0) 0), (.int (0) 0), (.int (3) 0), (.ref 722), (.bool true), (.int (273) 0), (.ref 723), .none, (.ref 724), (.ref 725), (.ref 726), (.int (1165) 0), (.int (377) 0), (.str "/claim/cut.py" 1166)]), #[]⟩) ::
  (nat_lit 728, ⟨(.type "function"), none, (.func { name := "__getitem__", qualname := "Cache.__getitem__", params := fnA 31 (some 4), body := .stmts (fnB 31 (some 4)), scope := fnS 31 (some 4), globals := 3, closure := [], defaults := .none, kwdefaults := .none, doc := .none, pyModule := (.str "cachetools" 1128), annotations := none, code := (.ref 727), closureTuple := .none, builtins := 0 }), #[]⟩) ::
  (nat_lit 734, ⟨(.type "code"), none, (.fields #[(.str "__setitem__" 1168), (.str "Cache.__setitem__" 1169), (.str "/claim/cut.py" 1170), (.int (383) 0), (.int (3) 0), (.int (0) 0), (.int (0) 0), (.int (3) 0), (.ref 729), (.bool true), (.int (273) 0), (.ref 730), .none, (.ref 731), (.ref 732), (.ref 733), (.int (1179) 0), (.int (383) 0), (.str "/claim/cut.py" 1180)]), #[]⟩) ::
  (nat_lit 735, ⟨(.type "function"), none, (.func { name := "__setitem__", qualname := "Cache.__setitem__", params := fnA 31 (some 5), body := .stmts (fnB 31 (some 5)), scope := fnS 31 (some 5), globals := 3, closure := [], defaults := .none, kwdefaults := .none, doc := .none, pyModule := (.str "cachetools" 1128), annotations := none, code := (.ref 734), closureTuple := .none, builtins := 0 }), #[]⟩) ::
  (nat_lit 741, ⟨(.type "code"), none, (.fields #[(.str "__delitem__" 1182), (.str "Cache.__delitem__" 1183), (.str "/claim/cut.py" 1184), (.int (417) 0), (.int (2) 0), (.int (0) 0), (.int (0) 0), (.int (3) 0), (.ref 736), (.bool true), (.int (273) 0), (.ref 737), .none, (.ref 738), (.ref 739), (.ref 740), (.int (1189) 0), (.int (417) 0), (.str "/claim/cut.py" 1190)]), #[]⟩) ::
  (nat_lit 742, ⟨(.type "function"), none, (.func { name := "__delitem__", qualname := "Cache.__delitem__", params := fnA 31 (some 6), body := .stmts (fnB 31 (some 6)), scope := fnS 31 (some 6), globals := 3, closure := [], defaults := .none, kwdefaults := .none, doc := .none, pyModule := (.str "cachetools" 1128), annotations := none, code := (.ref 741), closureTuple := .none, builtins := 0 }), #[]⟩) ::
  (nat_lit 748, ⟨(.type "code"), none, (.fields #[(.str "__contains__" 1192), (.str "Cache.__contains__" 1193), (.str "/claim/cut.py" 1194), (.int (427) 0), (.int (2) 0), (.int (0) 0), (.int (0) 0), (.int (3) 0), (.ref 743), (.bool true), (.int (273) 0), (.ref 744), .none, (.ref 745), (.ref 746), (.ref 747), (.int (1197) 0), (.int (427) 0), (.str "/claim/cut.py" 1198)]), #[]⟩) ::
  (nat_lit 749, ⟨(.type "function"), none, (.func { name := "__contains__", qualname := "Cache.__contains__", params := fnA 31 (some 7), body := .stmts (fnB 31 (some 7)), scope := fnS 31 (some 7), globals := 3, closure := [], defaults := .none, kwdefaults := .none, doc := .none, pyModule := (.str "cachetools" 1128), annotations := none, code := (.ref 748), closureTuple := .none, builtins := 0 }), #[]⟩) ::
  (nat_lit 755, ⟨(.type "code"), none, (.fields #[(.str "__missing__" 1200), (.str "Cache.__missing__" 1201), (.str "/claim/cut.py" 1202), (.int (430) 0), (.int (2) 0), (.int (0) 0), (.int (0) 0), (.int (3) 0), (.ref 750), (.bool true), (.int (273) 0), (.ref 751), .none, (.ref 752), (.ref 753), (.ref 754), (.int (1205) 0), (.int (430) 0), (.str "/claim/cut.py" 1206)]), #[]⟩) ::
  (nat_lit 756, ⟨(.type "function"), none, (.func { name := "__missing__", qualname := "Cache.__missing__", params := fnA 31 (some 8), body := .stmts (fnB 31 (some 8)), scope := fnS 31 (some 8), globals := 3, closure := [], defaults := .none, kwdefaults := .none, doc := .none, pyModule := (.str "cachetools" 1128), annotations := none, code := (.ref 755), closureTuple := .none, builtins := 0 }), #[]⟩) ::
  (nat_lit 762, ⟨(.type "code"), none, (.fields #[(.str "__iter__" 1208), (.str "Cache.__iter__" 1209), (.str "/claim/cut.py" 1210), (.int (433) 0), (.int (1) 0), (.int (0) 0), (.int (0) 0), (.int (3) 0), (.ref 757), (.bool true), (.int (273) 0), (.ref 758), .none, (.ref 759), (.ref 760), (.ref 761), (.int (1212) 0), (.int (433) 0), (.str "/claim/cut.py" 1213)]), #[]⟩) ::
  (nat_lit 763, ⟨(.type "function"), none, (.func { name := "__iter__", qualname := "Cache.__iter__", params := fnA 31 (some 9), body := .stmts (fnB 31 (some 9)), scope := fnS 31 (some 9), globals := 3, closure := [], defaults := .none, kwdefaults := .none, doc := .none, pyModule := (.str "cachetools" 1128), annotations := none, code := (.ref 762), closureTuple := .none, builtins := 0 }), #[]⟩) ::
  (nat_lit 769, ⟨(.type "code"), none, (.fields #[(.str "__len__" 1215), (.str "Cache.__len__" 1216), (.str "/claim/cut.py" 1217), (.int (436) 0), (.int (1) 0), (.int (0) 0), (.int (0) 0), (.int (3) 0), (.ref 764), (.bool true), (.int (273) 0), (.ref 765), .none, (.ref 766), (.ref 767), (.ref 768), (.int (1219) 0), (.int (436) 0), (.str "/claim/cut.py" 1220)]), #[]⟩) ::
  (nat_lit 770, ⟨(.type "function"), none, (.func { name := "__len__", qualname := "Cache.__len__", params := fnA 31 (some 10), body := .stmts (fnB 31 (some 10)), scope := fnS 31 (some 10), globals := 3, closure := [], defaults := .none, kwdefaults := .none, doc := .none, pyModule := (.str "cachetools" 1128), annotations := none, code := (.ref 769), closureTuple := .none, builtins := 0 }), #[]⟩) ::
  (nat_lit 779, ⟨(.type "tuple"), none, (.seq #[(.ref 706)] 0), #[]⟩) ::
  (nat_lit 785, ⟨(.type "code"), none, (.fields #[(.str "pop" 1231), (.str "Cache.pop" 1232), (.str "/claim/cut.py" 1233), (.int (445) 0), (.int (3) 0), (.int (0) 0), (.int (0) 0), (.int (3) 0), (.ref 780), (.bool true), (.int (273) 0), (.ref 781), .none, (.ref 782), (.ref 783), (.ref 784), (.int (1238) 0), (.int (445) 0), (.str "/claim/cut.py" 1239)]), #[]⟩) ::
  (nat_lit 786, ⟨(.type "function"), none, (.func { name := "pop", qualname := "Cache.pop", params := fnA 31 (some 12), body := .stmts (fnB 31 (some 12)), scope := fnS 31 (some 12), globals := 3, closure := [], defaults := (.ref 779), kwdefaults := .none, doc := .none, pyModule := (.str "cachetools" 1128), annotations := none, code := (.ref 785), closureTuple := .none, builtins := 0 }), #[]⟩) ::
  (nat_lit 800, ⟨(.type "code"), none, (.fields #[(.str "clear" 1250), (.str "Cache.clear" 1251), (.str "/claim/cut.py" 1252), (.int (458) 0), (.int (1) 0), (.int (0) 0), (.int (0) 0), (.int (3) 0), (.ref 795), (.bool true), (.int (273) 0), (.ref 796), .none, (.ref 797), (.ref 798), (.ref 799), (.int (1255) 0), (.int (458) 0), (.str "/claim/cut.py" 1256)]), #[]⟩) ::
  (nat_lit 801, ⟨(.type "function"), none, (.func { name := "clear", qualname := "Cache.clear", params := fnA 31 (some 14), body := .stmts (fnB 31 (some 14)), scope := fnS 31 (some 14), globals := 3, closure := [], defaults := .none, kwdefaults := .none, doc := .none, pyModule := (.str "cachetools" 1128), annotations := none, code := (.ref 800), closureTuple := .none, builtins := 0 }), #[]⟩) ::
  (nat_lit 823, ⟨(.type "code"), none, (.fields #[(.str "getsizeof" 1274), (.str "Cache.getsizeof" 1275), (.str "/claim/cut.py" 1276), (.int (473) 0), (.int (1) 0), (.int (0) 0), (.int (0) 0), (.int (3) 0), (.ref 818), (.bool true), (.int (273) 0), (.ref 819), .none, (.ref 820), (.ref 821), (.ref 822), (.int (1278) 0), (.int (473) 0), (.str "/claim/cut.py" 1279)]), #[]⟩) ::
  (nat_lit 824, ⟨(.type "function"), none, (.func { name := "getsizeof", qualname := "Cache.getsizeof", params := fnA 31 (some 17), body := .stmts (fnB 31 (some 17)), scope := fnS 31 (some 17), globals := 3, closure := [], defaults := .none, kwdefaults := .none, doc := .none, pyModule := (.str "cachetools" 1128), annotations := (some 827), code := (.ref 823), closureTuple := .none, builtins := 0 }), #[]⟩) ::
  (nat_lit 825, ⟨(.type "dict"), none, (.dict #[⟨PyData.keyHash P "__module__", (.str "__module__" 1281), (.str "cachetools" 1128)⟩, ⟨PyData.keyHash P "__name__", (.str "__name__" 1284), (.str "getsizeof" 1283)⟩, ⟨PyData.keyHash P "__qualname__", (.str "__qualname__" 1287), (.str "Cache.getsizeof" 1286)⟩, ⟨PyData.keyHash P "__doc__", (.str "__doc__" 1289), .none⟩, ⟨PyData.keyHash P "__annotations__", (.str "__annotations__" 1291), (.ref 827)⟩] 5), #[]⟩) ::
  (nat_lit 826, ⟨(.type "staticmethod"), (some 825), (.fields #[(.ref 824), (.bool false)]), #[]⟩) ::
  (nat_lit 829, ⟨(.type "dict"), none, (.dict #[⟨PyData.keyHash P "__module__", (.str "__module__" 1137), (.str "cachetools" 1128)⟩, ⟨PyData.keyHash P "__firstlineno__", (.str "__firstlineno__" 1141), (.int (359) 1140)⟩, ⟨PyData.keyHash P "_Cache__marker", (.str "_Cache__marker" 1142), (.ref 706)⟩, ⟨PyData.keyHash P "_Cache__size", (.str "_Cache__size" 1143), .none⟩, ⟨PyData.keyHash P "__init__", (.str "__init__" 1152), (.ref 714)⟩, ⟨PyData.keyHash P "__repr__", (.str "__repr__" 1159), (.ref 721)⟩, ⟨PyData.keyHash P "__getitem__", (.str "__getitem__" 1167), (.ref 728)⟩, ⟨PyData.keyHash P "__setitem__", (.str "__setitem__" 1181), (.ref 735)⟩, ⟨PyData.keyHash P "__delitem__", (.str "__delitem__" 1191), (.ref 742)⟩, ⟨PyData.keyHash P "__contains__", (.str "__contains__" 1199), (.ref 749)⟩, ⟨PyData.keyHash P "__missing__", (.str "__missing__" 1207), (.ref 756)⟩, ⟨PyData.keyHash P "__iter__", (.str "__iter__" 1214), (.ref 763)⟩, ⟨PyData.keyHash P "__len__", (.str "__len__" 1221), (.ref 770)⟩, ⟨PyData.keyHash P "get", (.str "get" 1230), (.ref 778)⟩, ⟨PyData.keyHash P "pop", (.str "pop" 1240), (.ref 786)⟩, ⟨PyData.keyHash P "setdefault", (.str "setdefault" 1249), (.ref 794)⟩, ⟨PyData.keyHash P "clear", (.str "clear" 1257), (.ref 801)⟩, ⟨PyData.keyHash P "maxsize", (.str "maxsize" 1265), (.ref 809)⟩, ⟨PyData.keyHash P "currsize", (.str "currsize" 1273), (.ref 817)⟩, ⟨PyData.keyHash P "getsizeof", (.str "getsizeof" 1292), (.ref 826)⟩, ⟨PyData.keyHash P "__static_attributes__", (.str "__static_attributes__" 1298), (.ref 828)⟩, ⟨PyData.keyHash P "__dict__", (.str "__dict__" 1300), (.ref 831)⟩, ⟨PyData.keyHash P "__weakref__", (.str "__weakref__" 1302), (.ref 832)⟩, ⟨PyData.keyHash P "__doc__", (.str "__doc__" 1303), .none⟩] 4), #[]⟩) ::
  (nat_lit 830, ⟨(.ref 89), none, (.cls { name := "Cache", bases := [(.ref 695)], mro := [(.ref 830), (.ref 695), (.ref 443), (.ref 255), (.ref 196), (.ref 166), (.ref 232), (.type "object")], ns := 829, qualname := "Cache", hasDict := true, slotNames := [], subclasses := [(.ref 897)], abstract := false, collection := none, hasDel := false }), #[(some (.ref 699)), none, (some (.str "Cache" 1130)), (some (.str "Cache" 1138)), (some (.builtin "object.__new__")), (some (.bool true))]⟩) ::
  (nat_lit 842, ⟨(.type "tuple"), none, (.seq #[.none] 0), #[]⟩) ::
  (nat_lit 848, ⟨(.type "code"), none, (.fields #[(.str "__init__" 1318), (.str "LRUCache.__init__" 1319), (.str "/claim/cut.py" 1320), (.int (478) 0), (.int (3) 0), (.int (0) 0), (.int (0) 0), (.int (3) 0), (.ref 843), (.bool true), (.int (273) 0), (.ref 844), .none, (.ref 845), (.ref 846), (.ref 847), (.int (1324) 0), (.int (478) 0), (.str "/claim/cut.py" 1325)]), #[]⟩) ::
  (nat_lit 849, ⟨(.type "function"), none, (.func { name := "__init__", qualname := "LRUCache.__init__", params := fnA 32 (some 0), body := .stmts (fnB 32 (some 0)), scope := fnS 32 (some 0), globals := 3, closure := [], defaults := (.ref 842), kwdefaults := .none, doc := .none, pyModule := (.str "cachetools" 1128), annotations := none, code := (.ref 848), closureTuple := .none, builtins := 0 }), #[]⟩) ::
  (nat_lit 850, ⟨(.type "tuple"), none, (.seq #[(.ref 728)] 0), #[]⟩) ::
  (nat_lit 856, ⟨(.type "code"), none, (.fields #[(.str "__getitem__" 1328), (.str "LRUCache.__getitem__" 1329), (.str "/claim/cut.py" 1330), (.int (482) 0), (.int (3) 0), (.int (0) 0), (.int (0) 0), (.int (3) 0), (.ref 851), (.bool true), (.int (273) 0), (.ref 852), .none, (.ref 853), (.ref 854), (.ref 855), (.int (1335) 0), (.int (482) 0), (.str "/claim/cut.py" 1336)]), #[]⟩) ::
  (nat_lit 857, ⟨(.type "function"), none, (.func { name := "__getitem__", qualname := "LRUCache.__getitem__", params := fnA 32 (some 1), body := .stmts (fnB 32 (some 1)), scope := fnS 32 (some 1), globals := 3, closure := [], defaults := (.ref 850), kwdefaults := .none, doc := .none, pyModule := (.str "cachetools" 1128), annotations := none, code := (.ref 856), closureTuple := .none, builtins := 0 }), #[]⟩) ::
  (nat_lit 858, ⟨(.type "tuple"), none, (.seq #[(.ref 735)] 0), #[]⟩) ::
  (nat_lit 864, ⟨(.type "code"), none, (.fields #[(.str "__setitem__" 1339), (.str "LRUCache.__setitem__" 1340), (.str "/claim/cut.py" 1341), (.int (490) 0), (.int (4) 0), (.int (0) 0), (.int (0) 0), (.int (3) 0), (.ref 859), (.bool true), (.int (273) 0), (.ref 860), .none, (.ref 861), (.ref 862), (.ref 863), (.int (1346) 0), (.int (490) 0), (.str "/claim/cut.py" 1347)]), #[]⟩) ::
  (nat_lit 865, ⟨(.type "function"), none, (.func { name := "__setitem__", qualname := "LRUCache.__setitem__", params := fnA 32 (some 2), body := .stmts (fnB 32 (some 2)), scope := fnS 32 (some 2), globals := 3, closure := [], defaults := (.ref 858), kwdefaults := .none, doc := .none, pyModule := (.str "cachetools" 1128), annotations := none, code := (.ref 864), closureTuple := .none, builtins := 0 }), #[]⟩) ::
  (nat_lit 866, ⟨(.type "tuple"), none, (.seq #[(.ref 742)] 0), #[]⟩) ::
  (nat_lit 872, ⟨(.type "code"), none, (.fields #[(.str "__delitem__" 1350), (.str "LRUCache.__delitem__" 1351), (.str "/claim/cut.py" 1352), (.int (494) 0), (.int (3) 0), (.int (0) 0), (.int (0) 0), (.int (3) 0), (.ref 867), (.bool true), (.int (273) 0), (.ref 868), .none, (.ref 869), (.ref 870), (.ref 871), (.int (1356) 0), (.int (494) 0), (.str "/claim/cut.py" 1357)]), #[]⟩) ::
  (nat_lit 873, ⟨(.type "function"), none, (.func { name := "__delitem__", qualname := "LRUCache.__delitem__", params := fnA 32 (some 3), body := .stmts (fnB 32 (some 3)), scope := fnS 32 (some 3), globals := 3, closure := [], defaults := (.ref 866), kwdefaults := .none, doc := .none, pyModule := (.str "cachetools" 1128), annotations := none, code := (.ref 872), closureTuple := .none, builtins := 0 }), #[]⟩) ::
  (nat_lit 879, ⟨(.type "code"), none, (.fields #[(.str "popitem" 1359), (.str "LRUCache.popitem" 1360), (.str "/claim/cut.py" 1361), (.int (498) 0), (.int (1) 0), (.int (0) 0), (.int (0) 0), (.int (3) 0), (.ref 874), (.bool true), (.int (273) 0), (.ref 875), .none, (.ref 876), (.ref 877), (.ref 878), (.int (1365) 0), (.int (498) 0), (.str "/claim/cut.py" 1366)]), #[]⟩) ::
  (nat_lit 880, ⟨(.type "function"), none, (.func { name := "popitem", qualname := "LRUCache.popitem", params := fnA 32 (some 4), body := .stmts (fnB 32 (some 4)), scope := fnS 32 (some 4), globals := 3, closure := [], defaults := .none, kwdefaults := .none, doc := .none, pyModule := (.str "cachetools" 1128), annotations := none, code := (.ref 879), closureTuple := .none, builtins := 0 }), #[]⟩) ::
  (nat_lit 886, ⟨(.type "code"), none, (.fields #[(.str "clear" 1368), (.str "LRUCache.clear" 1369), (.str "/claim/cut.py" 1370), (.int (508) 0), (.int (1) 0), (.int (0) 0), (.int (0) 0), (.int (3) 0), (.ref 881), (.bool true), (.int (273) 0), (.ref 882), .none, (.ref 883), (.ref 884), (.ref 885), (.int (1372) 0), (.int (508) 0), (.str "/claim/cut.py" 1373)]), #[]⟩) ::
  (nat_lit 887, ⟨(.type "function"), none, (.func { name := "clear", qualname := "LRUCache.clear", params := fnA 32 (some 5), body := .stmts (fnB 32 (some 5)), scope := fnS 32 (some 5), globals := 3, closure := [], defaults := .none, kwdefaults := .none, doc := .none, pyModule := (.str "cachetools" 1128), annotations := none, code := (.ref 886), closureTuple := .none, builtins := 0 }), #[]⟩) ::
  (nat_lit 893, ⟨(.type "code"), none, (.fields #[(.str "__touch" 1375), (.str "LRUCache.__touch" 1376), (.str "/claim/cut.py" 1377), (.int (512) 0), (.int (2) 0), (.int (0) 0), (.int (0) 0), (.int (3) 0), (.ref 888), (.bool true), (.int (273) 0), (.ref 889), .none, (.ref 890), (.ref 891), (.ref 892), (.int (1380) 0), (.int (512) 0), (.str "/claim/cut.py" 1381)]), #[]⟩) ::
  (nat_lit 894, ⟨(.type "function"), none, (.func { name := "__touch", qualname := "LRUCache.__touch", params := fnA 32 (some 6), body := .stmts (fnB 32 (some 6)), scope := fnS 32 (some 6), globals := 3, closure := [], defaults := .none, kwdefaults := .none, doc := .none, pyModule := (.str "cachetools" 1128), annotations := none, code := (.ref 893), closureTuple := .none, builtins := 0 }), #[]⟩) ::
  (nat_lit 896, ⟨(.type "dict"), none, (.dict #[⟨PyData.keyHash P "__module__", (.str "__module__" 1313), (.str "cachetools" 1128)⟩, ⟨PyData.keyHash P "__firstlineno__", (.str "__firstlineno__" 1317), (.int (476) 1316)⟩, ⟨PyData.keyHash P "__init__", (.str "__init__" 1326), (.ref 849)⟩, ⟨PyData.keyHash P "__getitem__", (.str "__getitem__" 1337), (.ref 857)⟩, ⟨PyData.keyHash P "__setitem__", (.str "__setitem__" 1348), (.ref 865)⟩, ⟨PyData.keyHash P "__delitem__", (.str "__delitem__" 1358), (.ref 873)⟩, ⟨PyData.keyHash P "popitem", (.str "popitem" 1367), (.ref 880)⟩, ⟨PyData.keyHash P "clear", (.str "clear" 1374), (.ref 887)⟩, ⟨PyData.keyHash P "_LRUCache__touch", (.str "_LRUCache__touch" 1382), (.ref 894)⟩, ⟨PyData.keyHash P "__static_attributes__", (.str "__static_attributes__" 1384), (.ref 895)⟩, ⟨PyData.keyHash P "__doc__", (.str "__doc__" 1385), .none⟩] 2), #[]⟩) ::
  (nat_lit 897, ⟨(.ref 89), none, (.cls { name := "LRUCache", bases := [(.ref 830)], mro := [(.ref 897), (.ref 830), (.ref 695), (.ref 443), (.ref 255), (.ref 196), (.ref 166), (.ref 232), (.type "object")], ns := 896, qualname := "LRUCache", hasDict := true, slotNames := [], subclasses := [], abstract := false, collection := none, hasDel := false }), #[(some (.ref 835)), none, (some (.str "LRUCache" 1306)), (some (.str "LRUCache" 1314)), (some (.builtin "object.__new__")), (some (.bool true))]⟩) ::
  (nat_lit 905, ⟨(.type "code"), none, (.fields #[(.str "_law_front" 1390), (.str "_law_front" 1391), (.str "/claim/cut.py" 1392), (.int (518) 0), (.int (5) 0), (.int (0) 0), (.int (0) 0), (.int (3) 0), (.ref 900), (.bool true), (.int (273) 0), (.ref 901), .none, (.ref 902), (.ref 903), (.ref 904), (.int (1400) 0), (.int (518) 0), (.str "/claim/cut.py" 1401)]), #[]⟩) ::
  (nat_lit 906, ⟨(.type "function"), none, (.func { name := "_law_front", qualname := "_law_front", params := fnA 34 none, body := .stmts (fnB 34 none), scope := fnS 34 none, globals := 3, closure := [], defaults := .none, kwdefaults := .none, doc := .none, pyModule := (.str "law_bg0026_01" 1388), annotations := none, code := (.ref 905), closureTuple := .none, builtins := 0 }), #[]⟩) ::
  (nat_lit 912, ⟨(.type "code"), none, (.fields #[(.str "law" 1403), (.str "law" 1404), (.str "/claim/cut.py" 1405), (.int (523) 0), (.int (1) 0), (.int (0) 0), (.int (0) 0), (.int (3) 0), (.ref 907), (.bool true), (.int (273) 0), (.ref 908), .none, (.ref 909), (.ref 910), (.ref 911), (.int (1422) 0), (.int (523) 0), (.str "/claim/cut.py" 1423)]), #[]⟩) ::
  (nat_lit 913, ⟨(.type "function"), none, (.func { name := "law", qualname := "law", params := fnA 35 none, body := .stmts (fnB 35 none), scope := fnS 35 none, globals := 3, closure := [], defaults := .none, kwdefaults := .none, doc := .none, pyModule := (.str "law_bg0026_01" 1388), annotations := none, code := (.ref 912), closureTuple := .none, builtins := 0 }), #[]⟩) :: []
def KAs : List Nat := nat_lit 2 :: nat_lit 3 :: nat_lit 55 :: nat_lit 56 :: nat_lit 88 :: nat_lit 89 :: nat_lit 165 :: nat_lit 166 :: nat_lit 195 :: nat_lit 196 :: nat_lit 231 :: nat_lit 232 :: nat_lit 254 :: nat_lit 255 :: nat_lit 442 :: nat_lit 443 :: nat_lit 694 :: nat_lit 695 :: nat_lit 706 :: nat_lit 707 :: nat_lit 713 :: nat_lit 714 :: nat_lit 727 :: nat_lit 728 :: nat_lit 734 :: nat_lit 735 :: nat_lit 741 :: nat_lit 742 :: nat_lit 748 :: nat_lit 749 :: nat_lit 755 :: nat_lit 756 :: nat_lit 762 :: nat_lit 763 :: nat_lit 769 :: nat_lit 770 :: nat_lit 779 :: nat_lit 785 :: nat_lit 786 :: nat_lit 800 :: nat_lit 801 :: nat_lit 823 :: nat_lit 824 :: nat_lit 825 :: nat_lit 826 :: nat_lit 829 :: nat_lit 830 :: nat_lit 842 :: nat_lit 848 :: nat_lit 849 :: nat_lit 850 :: nat_lit 856 :: nat_lit 857 :: nat_lit 858 :: nat_lit 864 :: nat_lit 865 :: nat_lit 866 :: nat_lit 872 :: nat_lit 873 :: nat_lit 879 :: nat_lit 880 :: nat_lit 886 :: nat_lit 887 :: nat_lit 893 :: nat_lit 894 :: nat_lit 896 :: nat_lit 897 :: nat_lit 905 :: nat_lit 906 :: nat_lit 912 :: nat_lit 913 :: []

noncomputable def qv : Program := view PW [0, 35]
def lo : List Str := ["_wall", "ABCMeta", "_ABCLike", "_abc_plain_meta", "_abc_has_iter", "_abc_has_len", "_abc_has_contains", "_abc_is_mappingproxy", "_abc_is_builtin_collection", "Iterable", "Sized", "Container", "Collection", "Set", "Mapping", "MappingView", "KeysView", "ItemsView", "ValuesView", "MutableMapping", "Cache", "LRUCache", "_law_front"]
noncomputable def headFn (w : World) (os : OsState) := headOf w os (fun s => (openSeen qv lo (importedModules PW.main.body) (fun s => xlAt qv [] s && recOk [] s) true s, KAs.map s.heap.get?))
noncomputable def headGood (w : World) := some ((29 : Nat), ann0, (top.tree_33 w.params, (33 : Nat), ({} : Life), ({ toList := [] } : Array GenState), ({} : Drawn), (279 : Nat)), thrB, Flow.next, cE, pZ, (openGood qv lo, (KF w.params).map fun (p : Addr × Obj) => some p.2))
theorem headFn_self : headFn = headFn := rfl
theorem headGood_self : headGood = headGood := rfl
name_quick mineHead for Mine.headFn by Mine.headFn_self
name_quick mineGood for Mine.headGood by Mine.headGood_self
theorem head_eq : ∀ (w : World) (os : OsState), PySem.W.Fast.mineHead w os = PySem.W.Fast.mineGood w := by
  intro w os
  kernel_rfl
theorem head_is (w : World) (os : OsState) : headFn w os = headGood w := by
  rw [PySem.W.Fast.mineHead_eq, PySem.W.Fast.mineGood_eq]
  exact head_eq w os
noncomputable abbrev KH : Hook := kHook KF KAs (fun _ => by kernel_rfl)
theorem hd {d : DefRec} {kwd : List (Str × PySem.Expr)} (hdef : defOf qv PySem.Challenge.rw_bg0026_01.row.name = some (d, kwd)) (hp : PW.theDef PySem.Challenge.rw_bg0026_01.row.name = some (d.params, d.body, d.scope))
    (hk : kwWritten? d.params.kwonlyargs d.params.kw_defaults = some kwd)
    (walk : WalkO qv lo (XL qv []) KH.says PySem.Challenge.rw_bg0026_01.row.toRowW d kwd fun f vs => PySem.call f vs) : PySem.Challenge.rw_bg0026_01.Holds := by
  w_on
  o_law
  refine holds_open (q := qv) (loose := lo) (Xt := fun s => xlAt qv [] s && recOk [] s) (XP := XL qv []) (Yf := Hook.obs KH) (Ya := Hook.val KH) (YP := Hook.says KH) (N := 17826) ?hl (Hook.of KH) (Hook.keeps KH)
    (fun s e => xl_of s (Bool.and_eq_true_iff.mp e).1) XL.keeps hdef hp hk (fun s e => recFacts_of (Bool.and_eq_true_iff.mp e).2) (by rfl) (by assumption) (by decide +kernel) ⟨rfl, rfl, rfl, rfl, rfl, by decide +kernel⟩ ?hw walk
  case hl => exact fun w => left_of (f := fun s => (openSeen qv lo (importedModules PW.main.body) (fun s => xlAt qv [] s && recOk [] s) true s, KAs.map s.heap.get?)) (good := fun w => (openGood qv lo, (KF w.params).map fun (p : Addr × Obj) => some p.2)) head_is w
  case hw => w_witness2
end Mine
end
-- part W1
section
open PySem PySem.W PySem.Calls PyProof.Rows
set_option maxHeartbeats 0
namespace Mine
theorem filled : (PySem.Challenge.rw_bg0026_01, KF) = (PySem.Challenge.rw_bg0026_01, KF) := by
  w_on
  k_fill
  rfl
section
variable {prog : Program} {w : World} {A A₀ : Around} {s : Shared} {K : Frag} {L : Addr} {h₀ base : Heap} {m mg mb : Str → Option Value} {p : Program} {loose : List Str} {mean : ExcName → Option Value}
/-- a call of the text's own def, with a small ledger of its own: the rest stands aside -/
theorem enterS {i : Nat} {j : Option Nat} {env : Env} {outer : List Env} {R : Result → Shared → Prop} {name qual : Str} {params : Arguments} {body : List Stmt} {scope : Scope} {dV kV doc pm cdv ct oc : Value} {an od : Option Addr} {osl : Array (Option Value)} {f : Addr} {args : Args} {binds : List (Str × Value)} {small rest : List (Addr × Obj)}
    (_lit : fdOf (stFn i j) = some (params, body, scope))
    (B : Below A₀ base outer h₀) (F : Fr h₀ L s.heap m) (X₀ : K.In h₀) (N : News h₀ L s.heap small) (Nr : News h₀ L s.heap rest) (hoff : ∀ q ∈ rest, ∀ r ∈ small, q.1 ≠ r.1) (T : Top p loose mean mg mb h₀) (hA : A.frames = some (env :: outer)) (hf : env.frame = some L) (hke : env.scope.kind = .function)
    (ho : K.lookup f = some ⟨oc, od, .func (fnOf name qual params body scope dV kV doc pm an cdv ct), osl⟩) (hcd : codeIn K cdv qual = true) (hroom : A.depth < recursionLimit)
    (hbind : BindsTo s (fnOf name qual params body scope dV kV doc pm an cdv ct) args binds) (hloc : ∀ y ∈ binds, scope.names.lookup y.1 = some .local)
    (h : ∀ g L' h₁, Fr h₀ L g m → Fr g L' h₁ (fun y => binds.reverse.lookup y) → News g L' h₁ small → Below A base (env :: outer) g → K.In g → Top p loose mean mg mb g →
      wpAny (model prog w) (A.deeper (envOf qual scope L' f cdv)) (execs body (envOf qual scope L' f cdv))
        (fun fl s' => LeaveK h₀ L m g (fun r s' => News h₀ L s'.heap rest → R r s') (match fl with | .ret v => v | _ => .none) s')
        (fun e s' => wpAny (model prog w) (A.deeper (envOf qual scope L' f cdv)) («leaving» (envOf qual scope L' f cdv) e) (fun _ s'' => R (.error e) s'') (fun e' s'' => R (.error e') s'') s')
        { s with heap := h₁, toks := s.toks + binds.length })
    (hco : scope.isCoroutine = false) (hgen : scope.isGenerator = false) (hk : scope.kind = .function)
    (hcell : ∀ x ∈ scope.names, x.2 ≠ .cell) : codeAny (model prog w) A (.call (.ref f) args) R s := by
  obtain ⟨FG, BG, st, lv⟩ := groundX (R := fun r s' => News h₀ L s'.heap rest → R r s') B F N hA hf hke
  refine codeAny_call_def (fd := fnX name qual params body scope [] dV kV doc pm an cdv ct) (body := body) (binds := binds) hroom ((X₀.keeps F.keep) _ _ ho) rfl (T.nolimit.keeps F.keep) (codeRec_of (X₀.keeps F.keep) hcd) rfl hbind hcell hloc (fun h₁ hns hk₁ => ?_) hco hgen hk
  refine wpAny_mono (h _ s.heap.objs.size h₁ FG ⟨hns, fun b o e => hk₁ b o (of_hideAll _ e), Nat.le_of_eq (hideAll_size _ _)⟩
    (fun p hp => ⟨hk₁ _ _ (N p hp).1, Nat.ne_of_lt (Heap.lt_size (N p hp).1), hideAll_none _ (List.mem_map_of_mem hp)⟩) BG (X₀.keeps st) (T.keeps st)) (fun fl s' hl => ?_) fun _ _ y => y
  refine lv _ _ hl fun q hq => ?_
  obtain ⟨L', m', news', F', N', k⟩ := hl
  have hgq : (hideAll s.heap (small.map (·.1))).get? q.1 = some q.2 := hideAll_get _ (Nr q hq).1 fun hm => by
    obtain ⟨r, hr, e⟩ := List.mem_map.mp hm
    exact hoff q hq r hr e.symm
  exact ⟨F'.keep _ _ hgq, (Nr q hq).2⟩
end
end Mine
end
-- part W2
section
open PySem PySem.W PySem.Calls PyProof.Rows
set_option maxHeartbeats 4000000
namespace Mine
section
variable {prog : Program} {w : World} {A : Around} {E : Value → Shared → Prop} {s : Shared} {h₀ : Heap} {L d : Addr} {m : Str → Option Value} {news : List (Addr × Obj)} {g : Obj → List (Addr × Obj)} {o : Obj} {kvs : List (Int × Value)} {k : Int} {t : Tok} {v : Value}
theorem without_len {kvs : List (Int × Value)} {k : Int} : (without kvs k).length ≤ kvs.length := List.length_filter_le _ _
theorem stored_len {kvs : List (Int × Value)} {k : Int} {v : Value} : (stored kvs k v).length ≤ kvs.length + 1 := by
  unfold stored
  split
  · rw [List.length_map]; omega
  · rw [List.length_append]; simp
theorem line_le {n : Nat} (h : n ≤ 1000) : n ≤ sizeLine := by rw [sizeLine_eq]; omega
theorem x_in {Q : Value → Shared → Prop} (N : News h₀ L s.heap news) (hp : (d, o) ∈ news) (hd : o.IsDictOf (intKind prog w) kvs) (lo : (d == sysModules) = false) (h : Q (.bool (valueAt kvs k).isSome) { s with toks := s.toks + 1 }) :
    wpAny (model prog w) A (compareOp .In (.int k t) (.ref d)) Q E s := kda_in N hp hd lo (intKind_is _ _ _ _) _ rfl h
theorem x_notin {Q : Value → Shared → Prop} (N : News h₀ L s.heap news) (hp : (d, o) ∈ news) (hd : o.IsDictOf (intKind prog w) kvs) (lo : (d == sysModules) = false) (h : Q (.bool (!(valueAt kvs k).isSome)) { s with toks := s.toks + 1 }) :
    wpAny (model prog w) A (compareOp .NotIn (.int k t) (.ref d)) Q E s := wpAny_notIn_of (intKind_is _ _ _ _) lo (kda_dict N hp hd).mapOf h
theorem x_getItem {Q : Value → Shared → Prop} (N : News h₀ L s.heap news) (hp : (d, o) ∈ news) (hd : o.IsDictOf (intKind prog w) kvs) (hl : valueAt kvs k = some v) (h : Q v { s with toks := s.toks + 1 }) :
    wpAny (model prog w) A (getItem (.ref d) (.int k t)) Q E s := wpAny_getItem_of (intKind_is _ _ _ _) (kda_dict N hp hd).mapOf hl h
theorem x_tail {value slice : PySem.Expr} {Q : Value → Shared → Prop} (N : News h₀ L s.heap news) (hp : (d, o) ∈ news) (hd : o.IsDictOf (intKind prog w) kvs) (h : wpAny (model prog w) A (getItem (.ref d) (.int k t)) Q E s)
    (hs : subscripted slice false (.ref d) (.int k t) = operate [.ref d, .int k t] (getItem (.ref d) (.int k t)) := by with_unfolding_all rfl) : wpAny (model prog w) A (subscriptTail value slice (.ref d) (.int k t)) Q E s :=
  tail_any (kda_dict N hp hd).typeIs slot_dict_getitem.lookup h hs
theorem x_set {Q : Unit → Shared → Prop} (F : Fr h₀ L s.heap m) (N : News h₀ L s.heap news) (U : UpdF d o news g) (hd : o.IsDictOf (intKind prog w) kvs) (hsz : kvs.length ≤ sizeLine)
    (h : ∀ h' o', Fr h₀ L h' m → News h₀ L h' (g o') → o'.IsDictOf (intKind prog w) (stored kvs k v) → Q () { s with heap := h', toks := s.toks + 1 }) : wpAny (model prog w) A (setItem (.ref d) (.int k t) v) Q E s :=
  kda_set F N U hd (intKind_is _ _ _ _) hsz h
theorem x_del {Q : Unit → Shared → Prop} (F : Fr h₀ L s.heap m) (N : News h₀ L s.heap news) (U : UpdF d o news g) (hd : o.IsDictOf (intKind prog w) kvs) (hl : (valueAt kvs k).isSome = true) (hsz : kvs.length ≤ sizeLine)
    (h : ∀ h' o', Fr h₀ L h' m → News h₀ L h' (g o') → o'.IsDictOf (intKind prog w) (without kvs k) → Q () { s with heap := h', toks := s.toks + 1 }) : wpAny (model prog w) A (delItem (.ref d) (.int k t)) Q E s := by
  obtain ⟨pre, post, rfl, hg, a, b⟩ := U.split
  have hm := N (d, o) (List.mem_append_right _ (.head _))
  have hD : s.heap.DictOf (intKind prog w) d kvs := Heap.dictOf_iff.mpr ⟨o, hm.1, hd⟩
  unfold delItem
  try with_reducible refine wpAny_holding ?_
  refine wpAny_bind (wpAny_sequenceKey hD.typeIs (by decide) ?_)
  refine wpAny_bind (wpAny_callSpecial?_slot (name := Str.ofString "__delitem__") hD.typeIs PySem.F.slot_dict_delitem
    (call_meetsIn PySem.F.slot_dict_delitem hD.typeIs PySem.F.entry_dict_delitem (PySem.F.args_dict_delitem_2 _ _) (meets_dict_delitem_pairs (intKind prog w) d (intKind_is _ _ _ _)) ⟨kvs, hD, hsz, hl, fun h' hmm hs => ?_⟩))
  obtain ⟨o', ho', hd'⟩ := Heap.dictOf_iff.mp hmm
  exact wpAny_pure (h h' o' (F.change hs hm.2.1 hm.2.2) (hg o' ▸ N.setIn a b hs ho') hd')
theorem x_pop {Q : Value → Shared → Prop} (F : Fr h₀ L s.heap m) (N : News h₀ L s.heap news) (U : UpdF d o news g) (hd : o.IsDictOf (intKind prog w) kvs) (hl : valueAt kvs k = some v) (hsz : kvs.length ≤ sizeLine)
    (h : ∀ h' o', Fr h₀ L h' m → News h₀ L h' (g o') → o'.IsDictOf (intKind prog w) (without kvs k) → Q v { s with heap := h', toks := s.toks + 1 }) : wpAny (model prog w) A (call (.builtin "dict.pop") [.ref d, .int k t]) Q E s := by
  obtain ⟨pre, post, rfl, hg, a, b⟩ := U.split
  have hm := N (d, o) (List.mem_append_right _ (.head _))
  have hD : s.heap.DictOf (intKind prog w) d kvs := Heap.dictOf_iff.mpr ⟨o, hm.1, hd⟩
  refine call_meetsIn PySem.F.slot_dict_pop hD.typeIs PySem.F.entry_dict_pop (PySem.F.args_dict_pop_2 _ _) (meets_dict_pop_there (intKind prog w) d (intKind_is _ _ _ _) [] (.inl rfl) rfl) ⟨kvs, v, hD, hsz, hl, fun h' hmm hs => ?_⟩
  obtain ⟨o', ho', hd'⟩ := Heap.dictOf_iff.mp hmm
  exact h h' o' (F.change hs hm.2.1 hm.2.2) (hg o' ▸ N.setIn a b hs ho') hd'
theorem x_popmiss {Q : Value → Shared → Prop} (N : News h₀ L s.heap news) (hp : (d, o) ∈ news) (hd : o.IsDictOf (intKind prog w) kvs) (lo : (d == sysModules) = false) (hl : valueAt kvs k = none) (hh : A.handled = none)
    (h : ∀ h' e, Heap.NewExc s.heap h' e "KeyError" → E (.ref e) { s with heap := h', toks := s.toks + 1 }) : wpAny (model prog w) A (call (.builtin "dict.pop") [.ref d, .int k t]) Q E s := by
  have hD := kda_dict N hp hd
  exact call_meetsIn PySem.F.slot_dict_pop hD.typeIs PySem.F.entry_dict_pop (PySem.F.args_dict_pop_2 _ _) (meets_dict_pop_missing (intKind prog w) d (intKind_is _ _ _ _) lo rfl) ⟨hh, kvs, hD, hl, h⟩
theorem x_clear {Q : Value → Shared → Prop} (F : Fr h₀ L s.heap m) (N : News h₀ L s.heap news) (U : UpdF d o news g) (hd : o.IsDictOf (intKind prog w) kvs) (hsz : kvs.length ≤ sizeLine)
    (h : ∀ h' o', Fr h₀ L h' m → News h₀ L h' (g o') → o'.IsDictOf (intKind prog w) [] → Q .none { s with heap := h' }) : wpAny (model prog w) A (call (.builtin "dict.clear") [.ref d]) Q E s := by
  obtain ⟨pre, post, rfl, hg, a, b⟩ := U.split
  exact call_clear_madeIn (enc := PyData.int) (hsz := hsz) F N a b hd fun h' o' F' N' x _ => h h' o' F' (hg o' ▸ N') x
theorem x_len {Q : Value → Shared → Prop} (N : News h₀ L s.heap news) (hp : (d, o) ∈ news) (hd : o.IsDictOf (intKind prog w) kvs) (lo : (d == sysModules) = false) (hfit : kvs.length ≤ 1000) (h : Q (.int kvs.length (s.toks + 1)) { s with toks := s.toks + 1 + 1 }) :
    wpAny (model prog w) A (call (.builtin "len") [.ref d]) Q E s := kda_len N hp hd lo (by omega) h
theorem x_method {pl : Sem Bool} {x id : String} {Q : Value × List Value → Shared → Prop} (hx : (x = "pop" ∧ id = "dict.pop") ∨ (x = "clear" ∧ id = "dict.clear")) (N : News h₀ L s.heap news) (hp : (d, o) ∈ news) (hd : o.IsDictOf (intKind prog w) kvs) (h : Q (.builtin id, [.ref d]) s) :
    wpAny (model prog w) A (getMethod (.ref d) (Str.ofString x) pl) Q E s := by
  have hD := kda_dict N hp hd
  rcases hx with ⟨rfl, rfl⟩ | ⟨rfl, rfl⟩
  · exact getMethod_builtin hD.typeIs PySem.F.plainAttrs_dict PySem.F.slot_dict_pop PySem.F.type_dict_pop hD.mapOf.noDict h
  · exact getMethod_builtin hD.typeIs PySem.F.plainAttrs_dict PySem.F.slot_dict_clear PySem.F.type_dict_clear hD.mapOf.noDict h
end
end Mine
end
-- part R1
section
open PySem PySem.W PySem.Calls PyProof.Rows
namespace Mine
/-- no address of a ledger lies in a row -/
def hoffR (x : Nat) : List Addr → Prop
  | [] => True
  | r :: l => (@LT.lt Nat _ x r ∨ @LT.lt Nat _ r x) ∧ hoffR x l
def hoffB : List (Addr × Obj) → List Addr → Prop
  | [], _ => True
  | q :: t, l => hoffR q.1 l ∧ hoffB t l
theorem hoffR_of {x : Nat} : ∀ {l : List Addr}, hoffR x l → ∀ r ∈ l, @Ne Nat x r
  | [], _, _, h => nomatch h
  | _ :: _, h, r, hr => (List.mem_cons.mp hr).elim (fun e => e ▸ (h.1.elim Nat.ne_of_lt Nat.ne_of_gt)) fun hr => hoffR_of h.2 r hr
theorem hoff_of : ∀ {t : List (Addr × Obj)} {l : List Addr}, hoffB t l → ∀ q ∈ t, ∀ r ∈ l, q.1 ≠ r
  | [], _, _, _, h => nomatch h
  | _ :: _, _, h, q, hq => (List.mem_cons.mp hq).elim (fun e => e ▸ hoffR_of h.1) fun hq => hoff_of h.2 q hq

/-- the keys of a row of pairs -/
abbrev ks {V : Type} (l : List (Int × V)) : List Int := l.map (·.1)
abbrev outA (A : List (Int × Int)) (k : Int) : List (Int × Int) := A.filter fun p => p.1 ≠ k
def setA (A : List (Int × Int)) (k v : Int) (p : Nat) : List (Int × Int) :=
  if k ∈ ks A then outA A k ++ [(k, v)] else (if A.length < p then A else A.tail) ++ [(k, v)]
/-- a cache's two dicts hold the items A, the least recent first -/
structure Rel (A : List (Int × Int)) (D O : List (Int × Value)) : Prop where
  nd : (ks A).Nodup
  ord : ks O = ks A
  dk : (ks D).Perm (ks A)
  val : ∀ q ∈ D, ∃ v t, q.2 = .int v t ∧ (q.1, v) ∈ A
variable {A : List (Int × Int)} {D O : List (Int × Value)} {k v v' : Int} {x : Value} {t : Tok} {p : Nat}
theorem ks_filter {V : Type} (l : List (Int × V)) (k : Int) : ks (l.filter fun q => q.1 ≠ k) = (ks l).filter fun j => j ≠ k := by
  induction l with
  | nil => rfl
  | cons a r ih =>
    simp only [ks] at ih ⊢
    by_cases h : a.1 = k
    · rw [List.filter_cons_of_neg (by simp [h]), List.map_cons, List.filter_cons_of_neg (by simp [h])]; exact ih
    · rw [List.filter_cons_of_pos (by simp [h]), List.map_cons, List.map_cons, List.filter_cons_of_pos (by simp [h]), ih]
theorem ks_without {kvs : List (Int × Value)} : ks (without kvs k) = (ks kvs).filter fun j => j ≠ k := ks_filter kvs k
theorem any_iff {kvs : List (Int × Value)} : (kvs.any fun kv => kv.1 = k) = true ↔ k ∈ ks kvs := by
  simp only [List.any_eq_true, decide_eq_true_eq, ks, List.mem_map]
theorem stored_in {kvs : List (Int × Value)} (h : k ∈ ks kvs) : ks (stored kvs k x) = ks kvs := by
  unfold stored
  rw [if_pos (any_iff.mpr h)]
  simp only [ks, List.map_map]
  refine List.map_congr_left fun a _ => ?_
  simp only [Function.comp]
  split <;> rfl
theorem stored_out {kvs : List (Int × Value)} (h : k ∉ ks kvs) : stored kvs k x = kvs ++ [(k, x)] := by
  unfold stored
  rw [if_neg (fun e => h (any_iff.mp e))]
theorem valueAt_none {kvs : List (Int × Value)} (h : k ∉ ks kvs) : valueAt kvs k = none := PyProof.Rows.valueAt_none_of_not_mem h
theorem valueAt_some {kvs : List (Int × Value)} (h : k ∈ ks kvs) : ∃ y, valueAt kvs k = some y ∧ (k, y) ∈ kvs := by
  unfold valueAt
  cases e : kvs.find? fun kv => kv.1 = k with
  | none =>
    rw [List.find?_eq_none] at e
    obtain ⟨q, hq, rfl⟩ := List.mem_map.mp h
    exact absurd (decide_eq_true rfl) (e q hq)
  | some q =>
    have h1 := List.mem_of_find?_eq_some e
    have h2 := List.find?_some e
    simp only [decide_eq_true_eq] at h2
    refine ⟨q.2, rfl, ?_⟩
    rw [← h2]
    exact h1
theorem key_one (nd : (ks A).Nodup) (h : (k, v) ∈ A) (h' : (k, v') ∈ A) : v = v' := by
  induction A with
  | nil => cases h
  | cons a r ih =>
    have h1 := List.nodup_cons.mp nd
    rcases List.mem_cons.mp h with e1 | g1
    · rcases List.mem_cons.mp h' with e2 | g2
      · exact (Prod.mk.inj (e1.trans e2.symm)).2
      · exact absurd (List.mem_map.mpr ⟨_, g2, by rw [← e1]⟩) h1.1
    · rcases List.mem_cons.mp h' with e2 | g2
      · exact absurd (List.mem_map.mpr ⟨_, g1, by rw [← e2]⟩) h1.1
      · exact ih h1.2 g1 g2
namespace Rel
theorem len (R : Rel A D O) : D.length = A.length := by have := R.dk.length_eq; simpa [ks] using this
theorem lenO (R : Rel A D O) : O.length = A.length := by have := congrArg List.length R.ord; simpa [ks] using this
theorem memD (R : Rel A D O) : k ∈ ks D ↔ k ∈ ks A := R.dk.mem_iff
theorem memO (R : Rel A D O) : k ∈ ks O ↔ k ∈ ks A := by rw [R.ord]
theorem at_ (R : Rel A D O) (h : (k, v) ∈ A) : ∃ t, valueAt D k = some (.int v t) := by
  obtain ⟨y, hy, hm⟩ := valueAt_some (R.memD.mpr (List.mem_map_of_mem (f := (·.1)) h))
  obtain ⟨v', t, e, h'⟩ := R.val _ hm
  have e : y = .int v' t := e
  refine ⟨t, ?_⟩
  rw [hy, e, key_one R.nd h h']
theorem atO (R : Rel A D O) (h : k ∈ ks A) : ∃ y, valueAt O k = some y := let ⟨y, hy, _⟩ := valueAt_some (R.memO.mpr h); ⟨y, hy⟩
theorem off (R : Rel A D O) (h : k ∉ ks A) : valueAt D k = none := valueAt_none fun e => h (R.memD.mp e)
theorem offO (R : Rel A D O) (h : k ∉ ks A) : valueAt O k = none := valueAt_none fun e => h (R.memO.mp e)
theorem isSome (R : Rel A D O) : (valueAt D k).isSome = decide (k ∈ ks A) := by
  by_cases h : k ∈ ks A
  · obtain ⟨y, hy, _⟩ := valueAt_some (R.memD.mpr h)
    rw [hy, decide_eq_true h]; rfl
  · rw [R.off h, decide_eq_false h]; rfl
theorem nil : Rel [] [] [] := ⟨List.nodup_nil, rfl, .refl _, fun _ h => nomatch h⟩
theorem out (R : Rel A D O) (k : Int) : Rel (outA A k) (without D k) (without O k) := by
  refine ⟨?_, ?_, ?_, ?_⟩
  · rw [ks_filter]; exact R.nd.filter _
  · rw [ks_without, ks_filter, R.ord]
  · rw [ks_without, ks_filter]; exact R.dk.filter _
  · intro q hq
    obtain ⟨h1, h2⟩ := List.mem_filter.mp hq
    obtain ⟨v, t, e, hm⟩ := R.val q h1
    exact ⟨v, t, e, List.mem_filter.mpr ⟨hm, h2⟩⟩
theorem new (R : Rel A D O) (h : k ∉ ks A) (v : Int) (t : Tok) (y : Value) : Rel (A ++ [(k, v)]) (stored D k (.int v t)) (stored O k y) := by
  rw [stored_out (fun e => h (R.memD.mp e)), stored_out (fun e => h (R.memO.mp e))]
  refine ⟨?_, ?_, ?_, ?_⟩
  · simp only [ks, List.map_append, List.map_cons, List.map_nil]
    refine List.nodup_append.mpr ⟨R.nd, by simp, fun a ha b hb => ?_⟩
    simp only [List.mem_singleton] at hb
    subst hb
    intro e
    exact h (e ▸ ha)
  · simp only [ks, List.map_append, List.map_cons, List.map_nil]
    rw [show O.map (·.1) = A.map (·.1) from R.ord]
  · simp only [ks, List.map_append, List.map_cons, List.map_nil]
    exact R.dk.append_right _
  · intro q hq
    rcases List.mem_append.mp hq with hq | hq
    · obtain ⟨v, t, e, hm⟩ := R.val q hq
      exact ⟨v, t, e, List.mem_append_left _ hm⟩
    · simp only [List.mem_singleton] at hq
      subst hq
      exact ⟨v, t, rfl, by simp⟩
theorem out_not : k ∉ ks (outA A k) := by
  rw [ks_filter]
  simp
theorem front (nd : (ks A).Nodup) (h : k ∈ ks A) : (ks (outA A k) ++ [k]).Perm (ks A) := by
  rw [ks_filter]
  generalize ks A = l at nd h
  induction l with
  | nil => cases h
  | cons a r ih =>
    have h1 := List.nodup_cons.mp nd
    by_cases e : a = k
    · subst e
      have : ((a :: r).filter fun j => j ≠ a) = r := by
        rw [List.filter_cons_of_neg (by simp)]
        exact List.filter_eq_self.mpr fun j hj => by
          have : j ≠ a := fun q => h1.1 (q ▸ hj)
          simpa using this
      rw [this]
      exact List.perm_append_singleton a r
    · have hr : k ∈ r := (List.mem_cons.mp h).resolve_left fun q => e q.symm
      rw [List.filter_cons_of_pos (by simpa using e)]
      exact (ih h1.2 hr).cons a
theorem into (R : Rel A D O) (h : k ∈ ks A) (v : Int) (t : Tok) (y : Value) : Rel (outA A k ++ [(k, v)]) (stored D k (.int v t)) (stored (without O k) k y) := by
  have hD := R.memD.mpr h
  have R' := R.out k
  have hO : k ∉ ks (without O k) := fun e => out_not (R'.memO.mp e)
  refine ⟨?_, ?_, ?_, ?_⟩
  · have := (front R.nd h).nodup_iff.mpr R.nd
    simpa [ks] using this
  · rw [stored_out hO]
    simp only [ks, List.map_append, List.map_cons, List.map_nil]
    have := R'.ord
    simp only [ks] at this
    rw [this]
  · rw [stored_in hD]
    refine R.dk.trans ?_
    have := (front R.nd h).symm
    simpa [ks] using this
  · intro q hq
    unfold stored at hq
    rw [if_pos (any_iff.mpr hD)] at hq
    obtain ⟨r, hr, e⟩ := List.mem_map.mp hq
    by_cases hk : r.1 = k
    · rw [if_pos hk] at e
      subst e
      exact ⟨v, t, rfl, by rw [hk]; simp⟩
    · rw [if_neg hk] at e
      subst e
      obtain ⟨v, t, e, hm⟩ := R.val r hr
      exact ⟨v, t, e, List.mem_append_left _ (List.mem_filter.mpr ⟨hm, by simpa using hk⟩)⟩
theorem got (R : Rel A D O) (h : (k, v) ∈ A) (y : Value) : Rel (outA A k ++ [(k, v)]) D (stored (without O k) k y) := by
  have hk : k ∈ ks A := List.mem_map_of_mem (f := (·.1)) h
  have R2 := R.into hk v 0 y
  refine ⟨R2.nd, R2.ord, ?_, fun q hq => ?_⟩
  · refine R.dk.trans ?_
    have := (front R.nd hk).symm
    simpa [ks] using this
  · obtain ⟨v', t, e, hm⟩ := R.val q hq
    by_cases hqk : q.1 = k
    · have : v' = v := key_one R.nd (k := k) (by rw [← hqk]; exact hm) h
      exact ⟨v', t, e, List.mem_append_right _ (by rw [hqk, this]; simp)⟩
    · exact ⟨v', t, e, List.mem_append_left _ (List.mem_filter.mpr ⟨hm, by simpa using hqk⟩)⟩
theorem out_end : outA (outA A k ++ [(k, v)]) k = outA A k := by
  simp [outA, List.filter_append, List.filter_filter]
theorem took (R : Rel A D O) (h : (k, v) ∈ A) (y : Value) : Rel (outA A k) (without D k) (without (stored (without O k) k y) k) := by
  have := (R.got h y).out k
  rwa [out_end] at this
theorem head {k0 v0 : Int} {A' : List (Int × Int)} (R : Rel ((k0, v0) :: A') D O) : ∃ x0 O', O = (k0, x0) :: O' := by
  have := R.ord
  cases O with
  | nil => simp [ks] at this
  | cons q O' =>
    simp only [ks, List.map_cons, List.cons.injEq] at this
    exact ⟨q.2, O', by rw [← this.1]⟩
theorem out_head {k0 v0 : Int} {A' : List (Int × Int)} (nd : (ks ((k0, v0) :: A')).Nodup) : outA ((k0, v0) :: A') k0 = A' := by
  have h1 := List.nodup_cons.mp nd
  unfold outA
  rw [List.filter_cons_of_neg (by simp)]
  exact List.filter_eq_self.mpr fun j hj => by
    have : j.1 ≠ k0 := fun q => h1.1 (q ▸ List.mem_map_of_mem (f := (·.1)) hj)
    simpa using this
theorem pop {k0 v0 : Int} {A' : List (Int × Int)} (R : Rel ((k0, v0) :: A') D O) : Rel A' (without D k0) (without O k0) := by
  have := R.out k0
  rwa [out_head R.nd] at this
end Rel
theorem out_len (nd : (ks A).Nodup) (h : k ∈ ks A) : ((outA A k).length : Int) = (A.length : Int) - 1 := by
  have := (Rel.front nd h).length_eq
  simp only [ks, List.length_append, List.length_map, List.length_singleton] at this
  omega
theorem got_len (nd : (ks A).Nodup) (h : (k, v) ∈ A) : (outA A k ++ [(k, v')]).length = A.length := by
  have := out_len (k := k) nd (List.mem_map.mpr ⟨_, h, rfl⟩)
  rw [List.length_append, List.length_singleton]
  omega
theorem setA_len (hp : A.length ≤ p) (h1 : 1 ≤ p) : (setA A k v p).length ≤ p := by
  unfold setA
  split
  · rename_i h
    have : (outA A k).length < A.length := by
      refine List.length_filter_lt_length_iff_exists.mpr ?_
      obtain ⟨q, hq, e⟩ := List.mem_map.mp h
      exact ⟨q, hq, by simpa using e⟩
    simp only [List.length_append, List.length_singleton]
    omega
  · split
    · simp only [List.length_append, List.length_singleton]; omega
    · simp only [List.length_append, List.length_singleton, List.length_tail]; omega
end Mine
end
-- part WT
section
open PySem PySem.W PySem.Calls PyProof.Rows
set_option maxHeartbeats 4000000
namespace Mine
section
variable {prog : Program} {w : World} {A A₀ : Around} {s s' : Shared} {K : Frag} {L L' a e : Addr} {h₀ base g h : Heap} {m mg mb : Str → Option Value} {p : Program} {loose : List Str} {mean : ExcName → Option Value}
  {E : Value → Shared → Prop} {name : Str} {scope : Scope} {cd : Value} {X : String} {small : List (Addr × Obj)}

/-- the frames on the stack, as a ledger -/
theorem frs_of : ∀ {l : List Env}, g.FunFrames base l → KtsDicts (l.filterMap (·.frame)) g → ∃ frs, TI.Frs l frs ∧ ∀ q ∈ frs, g.get? q.1 = some q.2 := by
  intro l
  induction l with
  | nil => intro _ _; exact ⟨[], trivial, fun q hq => nomatch hq⟩
  | cons env r ih =>
    intro hf D
    obtain ⟨hk, ⟨b, o, hb, _, ho, _⟩, hr⟩ := hf
    have hm : b ∈ (env :: r).filterMap (·.frame) := by rw [List.filterMap_cons, hb]; exact List.mem_cons_self
    obtain ⟨frs, x1, x2⟩ := ih hr fun c hc => D c (by rw [List.filterMap_cons, hb]; exact List.mem_cons_of_mem _ hc)
    obtain ⟨o', es, n, ho', hd'⟩ := D b hm
    rw [ho] at ho'
    obtain rfl := Option.some.inj ho'
    exact ⟨(b, o) :: frs, ⟨hk, hb, ⟨es, n, hd'⟩, x1⟩, fun q hq => by
      rcases List.mem_cons.mp hq with rfl | hq
      · exact ho
      · exact x2 q hq⟩

theorem gone_size : ∀ {l : List Addr}, (TI.gone g l).objs.size = g.objs.size
  | [] => rfl
  | b :: r => by
    show ((TI.gone g r).update b _).objs.size = _
    rw [Heap.size_after_update]
    exact gone_size

theorem below_turn {outer : List Env} (B : Below A₀ base outer g) {g' : Heap} (T : KtsTurn (outer.filterMap (·.frame)) g g') : Below A₀ base outer g' :=
  ⟨B.stack, fun b o e => T.other b o (B.stays b o e) (fun hm => by rw [(B.frames.mem hm).1] at e; cases e), B.frames.of_keeps fun b o e _ => by
    obtain ⟨sl', hs'⟩ := T.up e
    exact ⟨_, hs', rfl⟩⟩

/-- an exception that a builtin raised under the frame's own try, with frames below it -/
theorem noteS {outer : List Env} {Q : Unit → Shared → Prop} (hx : Heap.NewExc h s'.heap e X) (F : Fr g L' h m) (N : News g L' h small) (B : Below A₀ base outer g) (D : KtsDicts (outer.filterMap (·.frame)) g)
    (k : ∀ h' g', KtsTurn (outer.filterMap (·.frame)) g g' → TT.HeldN g' L' h' m e X small → Q () { s' with heap := h' }) (hk : scope.kind = .function := by rfl) :
    wpAny (model prog w) (A₀.deeper (envOf name scope L' a cd)) (noteFrame (.ref e) (envOf name scope L' a cd)) Q E s' := by
  obtain ⟨frs, Fs, hfr⟩ := frs_of B.frames D
  have hav : ∀ b, b ∈ frs.map (·.1) ↔ b ∈ outer.filterMap (·.frame) := fun b => by rw [Fs.addrs]
  have hlt : ∀ b o, g.get? b = some o → b ≠ L' := fun b o hb => Nat.ne_of_lt (Nat.lt_of_lt_of_le (Heap.lt_size hb) F.above)
  have F' : Fr (TI.gone g (frs.map (·.1))) L' h m := ⟨F.ns, fun b o hb => F.keep b o (TI.gone_some hb).2, by rw [gone_size]; exact F.above⟩
  have N' : News (TI.gone g (frs.map (·.1))) L' h (small ++ frs) := fun q hq => by
    rcases List.mem_append.mp hq with hq | hq
    · obtain ⟨h1, h2, h3⟩ := N q hq
      exact ⟨h1, h2, TI.none_of (fun b o hb => (TI.gone_some hb).2) h3⟩
    · exact ⟨F.keep _ _ (hfr q hq), hlt _ _ (hfr q hq), TI.gone_none (List.mem_map_of_mem hq)⟩
  refine TLg.noted_newA (new := small) (frs := frs) B.stack Fs hx F' N' (fun q hq hm => ?_) (fun h' frs' SU Fs' H => ?_) hk
  · obtain ⟨h1, h2, h3⟩ := N q hq
    rcases List.mem_cons.mp hm with z | hm
    · exact h2 z
    · obtain ⟨r, hr, z⟩ := List.mem_map.mp hm
      have := hfr r hr
      rw [z, h3] at this
      cases this
  · have Fh := H.held.fr
    obtain ⟨TT, SS⟩ := kts_turn_at (h := h') (fs := outer.filterMap (·.frame)) (g := g)
      (fun b hb => by
        obtain ⟨_, o, ho, _⟩ := B.frames.mem hb
        exact ⟨o, ho⟩)
      (fun b o hb nm => Fh.keep b o ((TI.gone_get (fun hm => nm ((hav b).mp hm))).trans hb))
      (fun b o hb hm => by
        obtain ⟨q, hq, z⟩ := List.mem_map.mp ((hav b).mpr hm)
        obtain ⟨sl, hs⟩ := SU.back q hq
        have h1 := hfr q hq
        rw [z, hb] at h1
        obtain rfl := Option.some.inj h1
        exact ⟨sl, by have := (H.made _ (List.mem_append_right _ hs)).1; rw [← z]; exact this⟩)
    have back : ∀ b, (TI.gone g (frs.map (·.1))).get? b = none → b ∉ frs.map (·.1) → (ktsHeap h' (outer.filterMap (·.frame)) g).get? b = none := fun b hb nm => TT.none_ _ (by rw [← TI.gone_get nm]; exact hb)
    refine k h' _ TT ⟨⟨⟨Fh.ns, SS, by rw [TT.size]; exact F.above⟩, ?_, ?_⟩, fun q hq => ⟨(H.made q (List.mem_append_left _ hq)).1, (N q hq).2.1, TT.none_ _ (N q hq).2.2⟩, fun ob vs tb h1 h2 h3 q hq => H.apart ob vs tb h1 h2 h3 q (List.mem_append_left _ hq)⟩
    · obtain ⟨ob, vs, tb, otb, tvs, he, hc, hd, h1, h2, h3, h4, h5, h6, h7⟩ := H.held.there
      refine ⟨ob, vs, tb, otb, tvs, he, hc, hd, h1, h2, h3, h4, h5, h6, back _ h7 fun hm => ?_⟩
      obtain ⟨q, hq, z⟩ := List.mem_map.mp hm
      obtain ⟨sl, hs⟩ := SU.back q hq
      exact H.apart ob vs tb he hd h1 _ (List.mem_append_right _ hs) z
    · refine back _ H.held.fresh fun hm => ?_
      obtain ⟨q, hq, z⟩ := List.mem_map.mp hm
      have h1 := F.keep _ _ (hfr q hq)
      rw [z, hx.new] at h1
      cases h1

/-- the way back over a turned ground -/
def LeaveT (fs ofs : List Addr) (A₀ : Around) (base : Heap) (outer : List Env) (K : Frag) (p : Program) (loose : List Str) (mean : ExcName → Option Value) (mg mb : Str → Option Value) (rest : List (Addr × Obj)) (h₀ : Heap) (L : Addr) (m : Str → Option Value) (g : Heap) (R : Result → Shared → Prop) (v : Value) (s' : Shared) : Prop :=
  ∃ g' L' m' news', KtsTurn fs g g' ∧ Fr g' L' s'.heap m' ∧ News g' L' s'.heap news' ∧ ∀ h₀', KtsTurn ofs h₀ h₀' → Fr h₀' L s'.heap m → News h₀' L s'.heap news' → News h₀' L s'.heap rest → Below A₀ base outer h₀' → K.In h₀' → Top p loose mean mg mb h₀' → KtsDicts ofs h₀' → R (.ok (.ret v)) s'
theorem leaveT_ {fs ofs : List Addr} {outer : List Env} {g' : Heap} {m' : Str → Option Value} {news' rest : List (Addr × Obj)} {R : Result → Shared → Prop} {v : Value} (F' : Fr g' L' s'.heap m') (N' : News g' L' s'.heap news') (T : KtsTurn fs g g')
    (k : ∀ h₀', KtsTurn ofs h₀ h₀' → Fr h₀' L s'.heap m → News h₀' L s'.heap news' → News h₀' L s'.heap rest → Below A₀ base outer h₀' → K.In h₀' → Top p loose mean mg mb h₀' → KtsDicts ofs h₀' → R (.ok (.ret v)) s') :
    LeaveT fs ofs A₀ base outer K p loose mean mg mb rest h₀ L m g R v s' := ⟨g', L', m', news', T, F', N', k⟩

/-- a call of the text's own def whose body may turn the ground; the rest stands aside -/
theorem enterT {i : Nat} {j : Option Nat} {outer : List Env} {R : Result → Shared → Prop} {env : Env} {name qual : Str} {params : Arguments} {body : List Stmt} {scope : Scope} {dV kV doc pm cdv ct oc : Value} {an od : Option Addr} {osl : Array (Option Value)} {f : Addr} {args : Args} {binds : List (Str × Value)} {small rest : List (Addr × Obj)}
    (_lit : fdOf (stFn i j) = some (params, body, scope))
    (B : Below A₀ base outer h₀) (F : Fr h₀ L s.heap m) (N : News h₀ L s.heap small) (Nr : News h₀ L s.heap rest) (hoff : ∀ q ∈ rest, ∀ r ∈ small, q.1 ≠ r.1) (XB : K.In base) (TB : Top p loose mean mg mb base) (D : KtsDicts (outer.filterMap (·.frame)) h₀)
    (hA : A.frames = some (env :: outer)) (hf : env.frame = some L) (hke : env.scope.kind = .function)
    (ho : K.lookup f = some ⟨oc, od, .func (fnOf name qual params body scope dV kV doc pm an cdv ct), osl⟩) (hcd : codeIn K cdv qual = true) (hroom : A.depth < recursionLimit)
    (hbind : BindsTo s (fnOf name qual params body scope dV kV doc pm an cdv ct) args binds) (hloc : ∀ y ∈ binds, scope.names.lookup y.1 = some .local)
    (hbody : ∀ g L' h₁, Fr h₀ L g m → Fr g L' h₁ (fun y => binds.reverse.lookup y) → News g L' h₁ small → Below A base (env :: outer) g → K.In g → Top p loose mean mg mb g → KtsDicts ((env :: outer).filterMap (·.frame)) g →
      wpAny (model prog w) (A.deeper (envOf qual scope L' f cdv)) (execs body (envOf qual scope L' f cdv))
        (fun fl s' => LeaveT ((env :: outer).filterMap (·.frame)) (outer.filterMap (·.frame)) A₀ base outer K p loose mean mg mb rest h₀ L m g R (match fl with | .ret v => v | _ => .none) s')
        (fun e s' => wpAny (model prog w) (A.deeper (envOf qual scope L' f cdv)) («leaving» (envOf qual scope L' f cdv) e) (fun _ s'' => R (.error e) s'') (fun e' s'' => R (.error e') s'') s')
        { s with heap := h₁, toks := s.toks + binds.length })
    (hco : scope.isCoroutine = false) (hgen : scope.isGenerator = false) (hk : scope.kind = .function)
    (hcell : ∀ x ∈ scope.names, x.2 ≠ .cell) : codeAny (model prog w) A (.call (.ref f) args) R s := by
  have X₀ : K.In h₀ := XB.keeps B.stays
  have T₀ : Top p loose mean mg mb h₀ := TB.keeps B.stays
  have X := X₀.keeps F.keep
  refine codeAny_call_def (fd := fnOf name qual params body scope dV kV doc pm an cdv ct) (body := body) (binds := binds) hroom (X _ _ ho) rfl (T₀.nolimit.keeps F.keep) (codeRec_of X hcd) rfl hbind hcell hloc (fun h₁ hns hk₁ => ?_) hco hgen hk
  obtain ⟨FG, B₂, st, _⟩ := groundX (R := R) B F N hA hf hke
  obtain ⟨oL, es, ep, hL, hLd, hLk, hLf⟩ := F.ns
  have hLg : (hideAll s.heap (small.map (·.1))).get? L = some oL := hideAll_get _ hL fun q => by
    obtain ⟨p, hp, e⟩ := List.mem_map.mp q
    exact (N p hp).2.1 e
  have hNs : ∀ (sl : Array (Option Value)) h', h'.get? L = some { oL with slots := sl } → Heap.Ns h' L m := fun sl h' e => ⟨_, es, ep, e, hLd, hLk, hLf⟩
  have mem : ∀ {b : Addr}, b ∈ (env :: outer).filterMap (·.frame) → b = L ∨ b ∈ outer.filterMap (·.frame) := fun hm => by
    rw [List.filterMap_cons, hf] at hm
    exact List.mem_cons.mp hm
  have hrest : ∀ q ∈ rest, (hideAll s.heap (small.map (·.1))).get? q.1 = some q.2 := fun q hq => hideAll_get _ (Nr q hq).1 fun hm => by
    obtain ⟨r, hr, e⟩ := List.mem_map.mp hm
    exact hoff q hq r hr e.symm
  refine wpAny_mono (hbody _ s.heap.objs.size h₁ FG ⟨hns, fun b o e => hk₁ b o (of_hideAll _ e), Nat.le_of_eq (hideAll_size _ _)⟩
    (fun p hp => ⟨hk₁ _ _ (N p hp).1, Nat.ne_of_lt (Heap.lt_size (N p hp).1), hideAll_none _ (List.mem_map_of_mem hp)⟩) B₂ (X₀.keeps st) (T₀.keeps st) (fun b hb => by
      rcases mem hb with rfl | hb
      · exact ⟨oL, es, ep, hLg, hLd⟩
      · obtain ⟨o, es', n', ho', hd'⟩ := D b hb
        exact ⟨o, es', n', st b o ho', hd'⟩)) (fun fl s' hl => ?_) fun _ _ y => y
  have nL₀ : h₀.get? L = none := kts_self F
  obtain ⟨g', L', m', news', T', F', N', k⟩ := hl
  obtain ⟨sl, hs⟩ := T'.up hLg
  obtain ⟨T₁, S₁⟩ := kts_turn_at (h := s'.heap) (fs := outer.filterMap (·.frame)) (g := h₀)
    (fun b hb => by
      obtain ⟨_, o, ho', _⟩ := B.frames.mem hb
      exact ⟨o, ho'⟩)
    (fun b o e nmem => F'.keep b o (T'.other b o (st b o e) (fun q => by
      rcases mem q with z | z
      · rw [z, nL₀] at e
        cases e
      · exact nmem z)))
    (fun b o e hm => by
      obtain ⟨sl', hs'⟩ := T'.up (st b o e)
      exact ⟨sl', F'.keep _ _ hs'⟩)
  have B₃ := below_turn B T₁
  refine k _ T₁ ⟨hNs sl _ (F'.keep _ _ hs), S₁, by rw [T₁.size]; exact F.above⟩ (fun p hp => ⟨(N' p hp).1, fun q => ?_, ?_⟩) (fun q hq => ⟨F'.keep _ _ (T'.other _ _ (hrest q hq) fun hm => ?_), (Nr q hq).2.1, T₁.none_ _ (Nr q hq).2.2⟩) B₃ (XB.keeps B₃.stays) (TB.keeps B₃.stays) (D.turn T₁)
  · have := (N' p hp).2.2; rw [q, hs] at this; cases this
  · refine T₁.none_ _ ?_
    cases q : h₀.get? p.1 with
    | none => rfl
    | some o =>
      obtain ⟨sl', hs'⟩ := T'.up (st _ _ q)
      have := (N' p hp).2.2
      rw [hs'] at this
      cases this
  · rcases mem hm with z | z
    · exact (Nr q hq).2.1 z
    · obtain ⟨_, o, ho', _⟩ := B.frames.mem z
      rw [(Nr q hq).2.2] at ho'
      cases ho'
end
section
variable {M : Model} {A : Around} {E : Value → Shared → Prop} {s : Shared} {K : Frag} {x C L f : Addr} {h₀ : Heap} {m : Str → Option Value} {ox : Obj} {od : Option Obj} {i v : Value}
theorem x_delOwn {Q : Unit → Shared → Prop} (F : Fr h₀ L s.heap m) (X₀ : K.In h₀) (I : InstAt s.heap x ox C od) (hq : noSeq K C = true) (hs : findIn K (.ref C) "__delitem__" = some (some (.ref f))) (hf : isFn K (.ref f) = true)
    (h : wpAny M A (call (.ref f) [.ref x, i]) (fun _ s' => Q () s') E s) : wpAny M A (delItem (.ref x) i) Q E s := by
  have X := X₀.keeps F.keep
  unfold delItem sequenceKey
  refine wpAny_holding (wpAny_bind (wpAny_bind (I.type.here ?_)))
  refine wpAny_bind ((anyM_none X hq).here ?_)
  rw [if_pos (show (!false) = true from rfl)]
  exact wpAny_pure (wpAny_bind (special_fn X I hs (beq_iff_eq.mp hf) (wpAny_mono h (fun _ _ z => wpAny_pure z) fun _ _ z => z)))
end
theorem up_in {A₀ : Around} {base g : Heap} {outer : List Env} {P : Params} (XB : (KF P).In base) (B : Below A₀ base outer g) : (KF P).In g := XB.keeps B.stays
theorem up_top {A₀ : Around} {base g : Heap} {outer : List Env} {mean : ExcName → Option Value} {mg mb : Str → Option Value} (TB : Top qv (looseW qv lo) mean mg mb base) (B : Below A₀ base outer g) : Top qv (looseW qv lo) mean mg mb g := TB.keeps B.stays
/-- the way back, with what is new set apart from what stood aside -/
def LeaveP (rest : List (Addr × Obj)) (h₀ : Heap) (L : Addr) (m : Str → Option Value) (g : Heap) (R : Result → Shared → Prop) (v : Value) (s' : Shared) : Prop :=
  ∃ L' m' news', Fr g L' s'.heap m' ∧ News g L' s'.heap news' ∧ ((∀ q ∈ rest, ∀ p ∈ news', @Ne Nat q.1 p.1) → News h₀ L s'.heap rest → Fr h₀ L s'.heap m → News h₀ L s'.heap news' → R (.ok (.ret v)) s')
theorem leaveP_ {rest : List (Addr × Obj)} {h₀ g : Heap} {L L' : Addr} {m m' : Str → Option Value} {news' : List (Addr × Obj)} {R : Result → Shared → Prop} {v : Value} {s' : Shared} (F' : Fr g L' s'.heap m') (N' : News g L' s'.heap news')
    (k : (∀ q ∈ rest, ∀ p ∈ news', @Ne Nat q.1 p.1) → News h₀ L s'.heap rest → Fr h₀ L s'.heap m → News h₀ L s'.heap news' → R (.ok (.ret v)) s') : LeaveP rest h₀ L m g R v s' := ⟨L', m', news', F', N', k⟩
section
variable {prog : Program} {w : World} {A A₀ : Around} {s : Shared} {K : Frag} {L : Addr} {h₀ base : Heap} {m mg mb : Str → Option Value} {p : Program} {loose : List Str} {mean : ExcName → Option Value}
theorem enterP {i : Nat} {j : Option Nat} {env : Env} {outer : List Env} {R : Result → Shared → Prop} {name qual : Str} {params : Arguments} {body : List Stmt} {scope : Scope} {dV kV doc pm cdv ct oc : Value} {an od : Option Addr} {osl : Array (Option Value)} {f : Addr} {args : Args} {binds : List (Str × Value)} {small rest : List (Addr × Obj)}
    (_lit : fdOf (stFn i j) = some (params, body, scope))
    (B : Below A₀ base outer h₀) (F : Fr h₀ L s.heap m) (X₀ : K.In h₀) (N : News h₀ L s.heap small) (Nr : News h₀ L s.heap rest) (hoff : ∀ q ∈ rest, ∀ r ∈ small, q.1 ≠ r.1) (T : Top p loose mean mg mb h₀) (hA : A.frames = some (env :: outer)) (hf : env.frame = some L) (hke : env.scope.kind = .function)
    (ho : K.lookup f = some ⟨oc, od, .func (fnOf name qual params body scope dV kV doc pm an cdv ct), osl⟩) (hcd : codeIn K cdv qual = true) (hroom : A.depth < recursionLimit)
    (hbind : BindsTo s (fnOf name qual params body scope dV kV doc pm an cdv ct) args binds) (hloc : ∀ y ∈ binds, scope.names.lookup y.1 = some .local)
    (h : ∀ g L' h₁, Fr h₀ L g m → Fr g L' h₁ (fun y => binds.reverse.lookup y) → News g L' h₁ small → Below A base (env :: outer) g → K.In g → Top p loose mean mg mb g →
      wpAny (model prog w) (A.deeper (envOf qual scope L' f cdv)) (execs body (envOf qual scope L' f cdv))
        (fun fl s' => LeaveP rest h₀ L m g R (match fl with | .ret v => v | _ => .none) s')
        (fun e s' => wpAny (model prog w) (A.deeper (envOf qual scope L' f cdv)) («leaving» (envOf qual scope L' f cdv) e) (fun _ s'' => R (.error e) s'') (fun e' s'' => R (.error e') s'') s')
        { s with heap := h₁, toks := s.toks + binds.length })
    (hco : scope.isCoroutine = false) (hgen : scope.isGenerator = false) (hk : scope.kind = .function)
    (hcell : ∀ x ∈ scope.names, x.2 ≠ .cell) : codeAny (model prog w) A (.call (.ref f) args) R s := by
  obtain ⟨FG, BG, st, lv⟩ := groundX (R := R) B F N hA hf hke
  refine codeAny_call_def (fd := fnX name qual params body scope [] dV kV doc pm an cdv ct) (body := body) (binds := binds) hroom ((X₀.keeps F.keep) _ _ ho) rfl (T.nolimit.keeps F.keep) (codeRec_of (X₀.keeps F.keep) hcd) rfl hbind hcell hloc (fun h₁ hns hk₁ => ?_) hco hgen hk
  refine wpAny_mono (h _ s.heap.objs.size h₁ FG ⟨hns, fun b o e => hk₁ b o (of_hideAll _ e), Nat.le_of_eq (hideAll_size _ _)⟩
    (fun p hp => ⟨hk₁ _ _ (N p hp).1, Nat.ne_of_lt (Heap.lt_size (N p hp).1), hideAll_none _ (List.mem_map_of_mem hp)⟩) BG (X₀.keeps st) (T.keeps st)) (fun fl s' hl => ?_) fun _ _ y => y
  obtain ⟨L', m', news', F', N', k⟩ := hl
  have hgq : ∀ q ∈ rest, (hideAll s.heap (small.map (·.1))).get? q.1 = some q.2 := fun q hq => hideAll_get _ (Nr q hq).1 fun hm => by
    obtain ⟨r, hr, e⟩ := List.mem_map.mp hm
    exact hoff q hq r hr e.symm
  refine lv _ _ ⟨L', m', news', F', N', fun a b => k (fun q hq p hp e => ?_) (fun q hq => ⟨F'.keep _ _ (hgq q hq), (Nr q hq).2⟩) a b⟩
  have h1 := (N' p hp).2.2
  have h2 := hgq q hq
  have e : q.1 = p.1 := e
  rw [e, h1] at h2
  cases h2
end
end Mine
end
section
open PySem PySem.W PySem.Calls PyProof.Rows
set_option maxHeartbeats 4000000
set_option linter.all false
namespace Mine
-- part W4
abbrev cEs (P : Params) (da oa : Addr) (n p : Int) (t0 t1 t2 t3 t4 t5 : Tok) : List DictEntry :=
  [⟨PyData.keyHash P (Str.ofString "_Cache__data"), .str (Str.ofString "_Cache__data") t0, .ref da⟩, ⟨PyData.keyHash P (Str.ofString "_Cache__currsize"), .str (Str.ofString "_Cache__currsize") t1, .int n t2⟩,
   ⟨PyData.keyHash P (Str.ofString "_Cache__maxsize"), .str (Str.ofString "_Cache__maxsize") t3, .int p t4⟩, ⟨PyData.keyHash P (Str.ofString "_LRUCache__order"), .str (Str.ofString "_LRUCache__order") t5, .ref oa⟩]
abbrev cL (c dx da oa : Addr) (odx od oo : Obj) : List (Addr × Obj) := [(c, instObj 897 dx), (dx, odx), (da, od), (oa, oo)]
theorem n_app {h₀ h : Heap} {L : Addr} {l l' rest : List (Addr × Obj)} (N : News h₀ L h l) (hs : ∀ p ∈ l', p ∈ l) (R : News h₀ L h rest) : News h₀ L h (l' ++ rest) :=
  fun p hp => (List.mem_append.mp hp).elim (fun h => N p (hs p h)) fun h => R p h
theorem n_sub {h₀ h : Heap} {L : Addr} {l l' : List (Addr × Obj)} (N : News h₀ L h l) (hs : ∀ p ∈ l', p ∈ l) : News h₀ L h l' := fun p hp => N p (hs p hp)
-- lines of my own, all local
local macro_rules | `(tactic| k_room) => `(tactic| ktr_room)
local macro_rules | `(tactic| k_units) => `(tactic| ktr_units)
-- a size
local macro_rules | `(tactic| ktr_rel) => `(tactic| (refine line_le ?_; first | omega | exact Nat.le_trans without_len (by omega) | exact Nat.le_trans stored_len (by omega) | exact Nat.le_trans stored_len (Nat.succ_le_succ (Nat.le_trans without_len (by omega)))))
local macro_rules | `(tactic| walk_at "compareOp In int ref") => `(tactic| (k_here; k_dflt (refine' x_in ?N ?p ?d ?l ?_; (case N => k_asm); (case p => k_mem); (case d => assumption); (case l => assumption); k_whole)))
local macro_rules | `(tactic| walk_at "subscriptTail") => `(tactic| (k_here; (with_reducible show wpAny _ _ (subscriptTail _ _ (Value.ref _) (Value.int _ _)) _ _ _); k_dflt (refine' x_tail ?N ?p ?d ?_; (case N => k_asm); (case p => k_mem); (case d => assumption); k_whole)))
local macro_rules | `(tactic| walk_at "getItem ref int") => `(tactic| (k_here; k_dflt (refine' x_getItem ?N ?p ?d ?v ?_; (case N => k_asm); (case p => k_mem); (case d => assumption); (case v => assumption); k_whole)))
local macro_rules | `(tactic| walk_at "setItem ref int") => `(tactic| (k_here; k_dflt (refine' x_set ?F ?N ?U ?d ?z ?_; (case F => k_asm); (case N => k_asm); (case U => k_updF); (case d => assumption); (case z => ktr_rel); k_whole); intro h' o' F' N' hd'; (try dsimp only at N')))
local macro_rules | `(tactic| walk_at "delItem ref int") => `(tactic| (k_here; k_dflt (refine' x_del ?F ?N ?U ?d ?v ?z ?_; (case F => k_asm); (case N => k_asm); (case U => k_updF); (case d => assumption); (case v => first | assumption | (simp only [*]; rfl)); (case z => ktr_rel); k_whole); intro h' o' F' N' hd'; (try dsimp only at N')))
local macro_rules | `(tactic| walk_at "getMethod ref") => `(tactic| (k_here; k_dflt (first | (refine' x_method (.inl ⟨rfl, rfl⟩) ?N ?p ?d ?_; (case N => k_asm); (case p => k_mem); (case d => assumption); k_whole) | (refine' x_method (.inr ⟨rfl, rfl⟩) ?N ?p ?d ?_; (case N => k_asm); (case p => k_mem); (case d => assumption); k_whole))))
local macro_rules | `(tactic| walk_at "call builtin:dict.pop") => `(tactic| (k_here; k_dflt (first | (refine' x_pop ?F ?N ?U ?d ?v ?z ?_; (case F => k_asm); (case N => k_asm); (case U => k_updF); (case d => assumption); (case v => assumption); (case z => ktr_rel); k_whole; intro h' o' F' N' hd'; (try dsimp only at N')) | (refine' x_popmiss ?N ?p ?d ?l ?v ?hh ?_; (case N => k_asm); (case p => k_mem); (case d => assumption); (case l => assumption); (case v => assumption); (case hh => rfl); k_whole; intro h' e' x'))))
local macro_rules | `(tactic| walk_at "call builtin:dict.clear") => `(tactic| (k_here; k_dflt (refine' x_clear ?F ?N ?U ?d ?z ?_; (case F => k_asm); (case N => k_asm); (case U => k_updF); (case d => assumption); (case z => ktr_rel); k_whole); intro h' o' F' N' hd'; (try dsimp only at N')))
local macro_rules | `(tactic| walk_at "call builtin:len") => `(tactic| (k_here; (with_reducible show wpAny _ _ (call (Value.builtin "len") [Value.ref _]) _ _ _); k_dflt (refine' x_len ?N ?p ?d ?l ?z ?_; (case N => k_asm); (case p => k_mem); (case d => assumption); (case l => assumption); (case z => omega); k_whole)))
section
variable {w : World} {mean : ExcName → Option Value} {mg mb : Str → Option Value} {dp un : Nat} {gd : Option (List Code)} {cn : Str} {cs : Scope} {a : Addr} {ccd : Value} {cl : List (Str × Addr)} {outer : List Env} {A₀ : Around} {base h₀ : Heap} {L : Addr} {m : Str → Option Value} {s : Shared} {Q E : Value → Shared → Prop}
variable {c dx da oa : Addr} {od oo : Obj} {n p : Int} {t0 t1 t2 t3 t4 t5 : Tok} {nn : Nat} {rest : List (Addr × Obj)} {D O : List (Int × Value)} {key : Int} {tk : Tok} {v x : Value}
variable (B : Below A₀ base outer h₀) (F : Fr h₀ L s.heap m) (X : (KF w.params).In h₀) (T : Top qv (looseW qv lo) mean mg mb h₀) (hk : cs.kind = .function)
  (Ns : News h₀ L s.heap (cL c dx da oa (dictOf (cEs w.params da oa n p t0 t1 t2 t3 t4 t5) 4) od oo)) (Nr : News h₀ L s.heap rest) (hoff : ∀ q ∈ rest, ∀ r ∈ [c, dx, da, oa], q.1 ≠ r)
  (hd : od.IsDictOf (intKind PW w) D) (ho : oo.IsDictOf (intKind PW w) O) (lo1 : (da == sysModules) = false) (lo2 : (oa == sysModules) = false) (o1 : @LT.lt Nat _ dx c) (o2 : @LT.lt Nat _ c da) (o3 : @LT.lt Nat _ da oa) (hz1 : D.length ≤ 50) (hz2 : O.length ≤ 50)
include B F X T hk Ns Nr hoff hd ho lo1 lo2 o1 o2 o3 hz1 hz2
theorem c_contains  (hdp : dp + 5 < recursionLimit) (hun : un + 50 < cLine)
    (hret : ∀ h' tk', Fr h₀ L h' m → News h₀ L h' (cL c dx da oa (dictOf (cEs w.params da oa n p t0 t1 t2 t3 t4 t5) 4) od oo ++ rest) → Q (.bool (valueAt D key).isSome) { s with heap := h', toks := tk' }) :
    wpAny (model PW w) (ktrTop dp un gd cn cs L a ccd cl outer) (call (.ref 749) [.ref c, .int key tk]) Q E s := by
  refine wpAny_call ?_
  refine enterS (i := 31) (j := some 7) (binds := [(Str.ofString "self", .ref c), (Str.ofString "key", .int key tk)]) (by rfl) B F X Ns Nr (fun q hq r hr => hoff q hq r.1 (List.mem_map_of_mem hr)) T rfl rfl hk (by k_is) (by k_is) (by ktr_room) (by first | exact BindsTo.of_eq rfl | exact binds_K (by k_in) rfl (by k_is) rfl rfl rfl) (locs rfl) ?_ rfl rfl rfl (by decide)
  intro g' L' h' FG' F' N' B' X' T'
  (try dsimp only); (try k_lift B'); (try k_fold)
  k_steps
  all_goals (first | exact hret _ _ (by assumption) (n_app (by assumption) (fun _ h => h) (by assumption))  | (refine hret _ _ (by assumption) (n_app (by assumption) ?_ (by assumption)) ; kcj_all) | w_report)
theorem c_len  (hdp : dp + 5 < recursionLimit) (hun : un + 50 < cLine)
    (hret : ∀ h' tk' (t' : Tok), Fr h₀ L h' m → News h₀ L h' (cL c dx da oa (dictOf (cEs w.params da oa n p t0 t1 t2 t3 t4 t5) 4) od oo ++ rest) → Q (.int D.length t') { s with heap := h', toks := tk' }) :
    wpAny (model PW w) (ktrTop dp un gd cn cs L a ccd cl outer) (call (.ref 770) [.ref c]) Q E s := by
  refine wpAny_call ?_
  refine enterS (i := 31) (j := some 10) (binds := [(Str.ofString "self", .ref c)]) (by rfl) B F X Ns Nr (fun q hq r hr => hoff q hq r.1 (List.mem_map_of_mem hr)) T rfl rfl hk (by k_is) (by k_is) (by ktr_room) (by first | exact BindsTo.of_eq rfl | exact binds_K (by k_in) rfl (by k_is) rfl rfl rfl) (locs rfl) ?_ rfl rfl rfl (by decide)
  intro g' L' h' FG' F' N' B' X' T'
  (try dsimp only); (try k_lift B'); (try k_fold)
  k_steps
  all_goals (first | exact hret _ _ _ (by assumption) (n_app (by assumption) (fun _ h => h) (by assumption))  | (refine hret _ _ _ (by assumption) (n_app (by assumption) ?_ (by assumption)) ; kcj_all) | w_report)
theorem c_read (hv : valueAt D key = some v) (hdp : dp + 5 < recursionLimit) (hun : un + 50 < cLine)
    (hret : ∀ h' tk', Fr h₀ L h' m → News h₀ L h' (cL c dx da oa (dictOf (cEs w.params da oa n p t0 t1 t2 t3 t4 t5) 4) od oo ++ rest) → Q v { s with heap := h', toks := tk' }) :
    wpAny (model PW w) (ktrTop dp un gd cn cs L a ccd cl outer) (call (.ref 728) [.ref c, .int key tk]) Q E s := by
  refine wpAny_call ?_
  refine enterS (i := 31) (j := some 4) (binds := [(Str.ofString "self", .ref c), (Str.ofString "key", .int key tk)]) (by rfl) B F X Ns Nr (fun q hq r hr => hoff q hq r.1 (List.mem_map_of_mem hr)) T rfl rfl hk (by k_is) (by k_is) (by ktr_room) (by first | exact BindsTo.of_eq rfl | exact binds_K (by k_in) rfl (by k_is) rfl rfl rfl) (locs rfl) ?_ rfl rfl rfl (by decide)
  intro g' L' h' FG' F' N' B' X' T'
  (try dsimp only); (try k_lift B'); (try k_fold)
  k_steps
  all_goals (first | exact hret _ _ (by assumption) (n_app (by assumption) (fun _ h => h) (by assumption))  | (refine hret _ _ (by assumption) (n_app (by assumption) ?_ (by assumption)) ; kcj_all) | w_report)
local macro_rules | `(tactic| walk_at "call ref") => `(tactic| (k_here; (with_reducible show wpAny _ _ (call (Value.ref 728) [Value.ref _, Value.int _ _]) _ _ _); k_dflt (refine' c_read (rest := []) ?B ?F ?X ?T ?hk ?Ns ?Nr ?hoff ?hd ?ho ?l1 ?l2 ?o1 ?o2 ?o3 ?z1 ?z2 ?hv ?dp ?un ?hr; (case B => k_asm); (case F => k_asm); (case X => k_asm); (case T => k_asm); (case hk => first | rfl | assumption); (case Ns => first | k_asm | exact n_sub (by assumption) (by kcj_all)); (case Nr => exact News.nil); (case hoff => intro _ h; cases h); (case hd => assumption); (case ho => assumption); (case l1 => assumption); (case l2 => assumption); (case o1 => omega); (case o2 => omega); (case o3 => omega); (case z1 => omega); (case z2 => first | omega | exact Nat.le_trans stored_len (by omega) | exact Nat.le_trans without_len (by omega)); (case hv => first | assumption | exact rfl | omega); (case dp => ktr_room); (case un => ktr_units)); intro h9 tk9 F9 N9; (try simp only [List.append_nil, List.cons_append, List.nil_append] at N9); (try dsimp only); (try k_fold)))
theorem c_get (hv : valueAt D key = some v) (hx : valueAt O key = some x) (hdp : dp + 10 < recursionLimit) (hun : un + 100 < cLine)
    (hret : ∀ h' tk' oo', Fr h₀ L h' m → News h₀ L h' (cL c dx da oa (dictOf (cEs w.params da oa n p t0 t1 t2 t3 t4 t5) 4) od oo' ++ rest) → oo'.IsDictOf (intKind PW w) (stored (without O key) key x) → Q v { s with heap := h', toks := tk' }) :
    wpAny (model PW w) (ktrTop dp un gd cn cs L a ccd cl outer) (call (.ref 857) [.ref c, .int key tk]) Q E s := by
  refine wpAny_call ?_
  refine enterS (i := 32) (j := some 1) (binds := [(Str.ofString "self", .ref c), (Str.ofString "key", .int key tk), (Str.ofString "cache_getitem", .ref 728)]) (by rfl) B F X Ns Nr (fun q hq r hr => hoff q hq r.1 (List.mem_map_of_mem hr)) T rfl rfl hk (by k_is) (by k_is) (by ktr_room) (by first | exact BindsTo.of_eq rfl | exact binds_K (by k_in) rfl (by k_is) rfl rfl rfl) (locs rfl) ?_ rfl rfl rfl (by decide)
  intro g' L' h' FG' F' N' B' X' T'
  (try dsimp only); (try k_lift B'); (try k_fold)
  k_steps
  all_goals (first | exact hret _ _ _ (by assumption) (n_app (by assumption) (fun _ h => h) (by assumption)) (by first | assumption | exact rfl | omega) | (refine hret _ _ _ (by assumption) (n_app (by assumption) ?_ (by assumption)) (by first | assumption | exact rfl | omega); kcj_all) | w_report)
theorem c_touch (hx : valueAt O key = some x) (hdp : dp + 5 < recursionLimit) (hun : un + 50 < cLine)
    (hret : ∀ h' tk' oo', Fr h₀ L h' m → News h₀ L h' (cL c dx da oa (dictOf (cEs w.params da oa n p t0 t1 t2 t3 t4 t5) 4) od oo' ++ rest) → oo'.IsDictOf (intKind PW w) (stored (without O key) key x) → Q .none { s with heap := h', toks := tk' }) :
    wpAny (model PW w) (ktrTop dp un gd cn cs L a ccd cl outer) (call (.ref 894) [.ref c, .int key tk]) Q E s := by
  refine wpAny_call ?_
  refine enterS (i := 32) (j := some 6) (binds := [(Str.ofString "self", .ref c), (Str.ofString "key", .int key tk)]) (by rfl) B F X Ns Nr (fun q hq r hr => hoff q hq r.1 (List.mem_map_of_mem hr)) T rfl rfl hk (by k_is) (by k_is) (by ktr_room) (by first | exact BindsTo.of_eq rfl | exact binds_K (by k_in) rfl (by k_is) rfl rfl rfl) (locs rfl) ?_ rfl rfl rfl (by decide)
  intro g' L' h' FG' F' N' B' X' T'
  (try dsimp only); (try k_lift B'); (try k_fold)
  k_steps
  all_goals (first | exact hret _ _ _ (by assumption) (n_app (by assumption) (fun _ h => h) (by assumption)) (by first | assumption | exact rfl | omega) | (refine hret _ _ _ (by assumption) (n_app (by assumption) ?_ (by assumption)) (by first | assumption | exact rfl | omega); kcj_all) | w_report)
theorem c_del0 (hv : (valueAt D key).isSome = true) (hn0 : 0 ≤ n) (hn1 : n ≤ 100) (hdp : dp + 5 < recursionLimit) (hun : un + 50 < cLine)
    (hret : ∀ h' tk' od' t2', Fr h₀ L h' m → News h₀ L h' (cL c dx da oa (dictOf (cEs w.params da oa (n - 1) p t0 t1 t2' t3 t4 t5) 4) od' oo ++ rest) → od'.IsDictOf (intKind PW w) (without D key) → Q .none { s with heap := h', toks := tk' }) :
    wpAny (model PW w) (ktrTop dp un gd cn cs L a ccd cl outer) (call (.ref 742) [.ref c, .int key tk]) Q E s := by
  refine wpAny_call ?_
  refine enterS (i := 31) (j := some 6) (binds := [(Str.ofString "self", .ref c), (Str.ofString "key", .int key tk)]) (by rfl) B F X Ns Nr (fun q hq r hr => hoff q hq r.1 (List.mem_map_of_mem hr)) T rfl rfl hk (by k_is) (by k_is) (by ktr_room) (by first | exact BindsTo.of_eq rfl | exact binds_K (by k_in) rfl (by k_is) rfl rfl rfl) (locs rfl) ?_ rfl rfl rfl (by decide)
  intro g' L' h' FG' F' N' B' X' T'
  (try dsimp only); (try k_lift B'); (try k_fold)
  k_steps
  all_goals (first | exact hret _ _ _ _ (by assumption) (n_app (by assumption) (fun _ h => h) (by assumption)) (by first | assumption | exact rfl | omega) | (refine hret _ _ _ _ (by assumption) (n_app (by assumption) ?_ (by assumption)) (by first | assumption | exact rfl | omega); kcj_all) | w_report)
end
local macro_rules | `(tactic| walk_at "compareOp In int ref") => `(tactic| (k_here; k_dflt (refine' x_in ?zqN ?zqp ?zqd ?zql ?_; (case zqN => k_asm); (case zqp => k_mem); (case zqd => assumption); (case zql => assumption); k_whole)))
local macro_rules | `(tactic| walk_at "subscriptTail") => `(tactic| (k_here; (with_reducible show wpAny _ _ (subscriptTail _ _ (Value.ref _) (Value.int _ _)) _ _ _); k_dflt (refine' x_tail ?zqN ?zqp ?zqd ?_; (case zqN => k_asm); (case zqp => k_mem); (case zqd => assumption); k_whole)))
local macro_rules | `(tactic| walk_at "getItem ref int") => `(tactic| (k_here; k_dflt (refine' x_getItem ?zqN ?zqp ?zqd ?zqv ?_; (case zqN => k_asm); (case zqp => k_mem); (case zqd => assumption); (case zqv => assumption); k_whole)))
local macro_rules | `(tactic| walk_at "setItem ref int") => `(tactic| (k_here; k_dflt (refine' x_set ?zqF ?zqN ?zqU ?zqd ?zqz ?_; (case zqF => k_asm); (case zqN => k_asm); (case zqU => k_updF); (case zqd => assumption); (case zqz => ktr_rel); k_whole); intro h' o' F' N' hd'; (try dsimp only at N')))
local macro_rules | `(tactic| walk_at "delItem ref int") => `(tactic| (k_here; k_dflt (refine' x_del ?zqF ?zqN ?zqU ?zqd ?zqv ?zqz ?_; (case zqF => k_asm); (case zqN => k_asm); (case zqU => k_updF); (case zqd => assumption); (case zqv => first | assumption | (simp only [*]; rfl)); (case zqz => ktr_rel); k_whole); intro h' o' F' N' hd'; (try dsimp only at N')))
local macro_rules | `(tactic| walk_at "getMethod ref") => `(tactic| (k_here; k_dflt (first | (refine' x_method (.inl ⟨rfl, rfl⟩) ?zqN ?zqp ?zqd ?_; (case zqN => k_asm); (case zqp => k_mem); (case zqd => assumption); k_whole) | (refine' x_method (.inr ⟨rfl, rfl⟩) ?zqN ?zqp ?zqd ?_; (case zqN => k_asm); (case zqp => k_mem); (case zqd => assumption); k_whole))))
local macro_rules | `(tactic| walk_at "call builtin:dict.pop") => `(tactic| (k_here; k_dflt (first | (refine' x_pop ?zqF ?zqN ?zqU ?zqd ?zqv ?zqz ?_; (case zqF => k_asm); (case zqN => k_asm); (case zqU => k_updF); (case zqd => assumption); (case zqv => assumption); (case zqz => ktr_rel); k_whole; intro h' o' F' N' hd'; (try dsimp only at N')) | (refine' x_popmiss ?zqN ?zqp ?zqd ?zql ?zqv ?zqhh ?_; (case zqN => k_asm); (case zqp => k_mem); (case zqd => assumption); (case zql => assumption); (case zqv => assumption); (case zqhh => rfl); k_whole; intro h' e' x'))))
local macro_rules | `(tactic| walk_at "call builtin:dict.clear") => `(tactic| (k_here; k_dflt (refine' x_clear ?zqF ?zqN ?zqU ?zqd ?zqz ?_; (case zqF => k_asm); (case zqN => k_asm); (case zqU => k_updF); (case zqd => assumption); (case zqz => ktr_rel); k_whole); intro h' o' F' N' hd'; (try dsimp only at N')))
local macro_rules | `(tactic| walk_at "call builtin:len") => `(tactic| (k_here; (with_reducible show wpAny _ _ (call (Value.builtin "len") [Value.ref _]) _ _ _); k_dflt (refine' x_len ?zqN ?zqp ?zqd ?zql ?zqz ?_; (case zqN => k_asm); (case zqp => k_mem); (case zqd => assumption); (case zql => assumption); (case zqz => omega); k_whole)))
local macro_rules | `(tactic| walk_at "delItem ref int") => `(tactic| (k_here; k_dflt (refine' x_delOwn ?zqF ?zqX ?zqI ?zqq ?zqs ?zqf ?_; (case zqF => k_asm); (case zqX => k_asm); (case zqI => k_inst); (case zqq => k_is); (case zqs => k_is); (case zqf => k_is); k_whole)))
local macro_rules | `(tactic| walk_at "WhlIf") => `(tactic| (first | (refine WhlIf.yes (decide_eq_true (by omega)) ?_) | (refine WhlIf.no (decide_eq_false (by omega)) ?_)))
local macro_rules | `(tactic| walk_at "compareOp Is str ref") => `(tactic| (k_here; refine wpAny_is_other (by rfl) (by intro x; cases x) ?_))
local macro_rules | `(tactic| walk_at "LeaveP") => `(tactic| (k_dflt (refine' leaveP_ ?zqF ?zqN ?_; (case zqF => k_asm); (case zqN => k_asm); k_whole); intro Z9 R9 F9 N9; (try dsimp only)))
-- part W5
section
local macro_rules | `(tactic| walk_at "noteFrame ref") => `(tactic| (k_here; (with_reducible rename Heap.NewExc _ _ _ _ => xX'); k_dflt (refine' noteS xX' ?zqF ?zqN ?zqB ?zqD ?zqk; (case zqF => k_asm); (case zqN => k_asm); (case zqB => k_asm); (case zqD => assumption)); clear xX'; intro h' g' tT' tH'; (have bB' := below_turn (by assumption) tT'); (have xB' := up_in (by assumption) bB'); (have tB' := up_top (by assumption) bB'); (have dB' := KtsDicts.turn (by assumption) tT'); (have ttHH' := TT.HeldNA.held tH')))
local macro_rules | `(tactic| walk_at "LeaveT") => `(tactic| (k_dflt (refine' leaveT_ ?zqF ?zqN ?zqT ?_; (case zqF => k_asm); (case zqN => k_asm); (case zqT => first | assumption | exact KtsTurn.trans (by assumption) (by assumption) | exact KtsTurn.refl); k_whole); intro g9 T9 F9 N9 R9 B9 X9 TT9 D9; (revert N9); intro N9; (try dsimp only)))
section
variable {w : World} {mean : ExcName → Option Value} {mg mb : Str → Option Value} {dp un : Nat} {gd : Option (List Code)} {cn : Str} {cs : Scope} {a : Addr} {ccd : Value} {cl : List (Str × Addr)} {outer : List Env} {A₀ : Around} {base h₀ : Heap} {L : Addr} {m : Str → Option Value} {s : Shared} {Q E : Value → Shared → Prop}
variable {c dx da oa : Addr} {od oo : Obj} {n p : Int} {t0 t1 t2 t3 t4 t5 : Tok} {nn : Nat} {rest : List (Addr × Obj)} {D O : List (Int × Value)} {key : Int} {tk : Tok} {v x : Value}
variable (B : Below A₀ base outer h₀) (F : Fr h₀ L s.heap m) (XB : (KF w.params).In base) (TB : Top qv (looseW qv lo) mean mg mb base) (DD : KtsDicts (outer.filterMap (·.frame)) h₀) (hk : cs.kind = .function)
  (Ns : News h₀ L s.heap (cL c dx da oa (dictOf (cEs w.params da oa n p t0 t1 t2 t3 t4 t5) 4) od oo)) (Nr : News h₀ L s.heap rest) (hoff : ∀ q ∈ rest, ∀ r ∈ [c, dx, da, oa], q.1 ≠ r)
  (hd : od.IsDictOf (intKind PW w) D) (ho : oo.IsDictOf (intKind PW w) O) (lo1 : (da == sysModules) = false) (lo2 : (oa == sysModules) = false) (o1 : @LT.lt Nat _ dx c) (o2 : @LT.lt Nat _ c da) (o3 : @LT.lt Nat _ da oa) (hz1 : D.length ≤ 50) (hz2 : O.length ≤ 50)
include B F XB TB DD hk Ns Nr hoff hd ho lo1 lo2 o1 o2 o3 hz1 hz2
theorem c_touchN (hx : valueAt O key = none) (hdp : dp + 5 < recursionLimit) (hun : un + 50 < cLine)
    (hret : ∀ h' tk' g' oo', KtsTurn (outer.filterMap (·.frame)) h₀ g' → Fr g' L h' m → News g' L h' (cL c dx da oa (dictOf (cEs w.params da oa n p t0 t1 t2 t3 t4 t5) 4) od oo' ++ rest) → Below A₀ base outer g' → KtsDicts (outer.filterMap (·.frame)) g' → oo'.IsDictOf (intKind PW w) (stored O key .none) → Q .none { s with heap := h', toks := tk' }) :
    wpAny (model PW w) (ktrTop dp un gd cn cs L a ccd cl outer) (call (.ref 894) [.ref c, .int key tk]) Q E s := by
  have Xs := Frag.In.keeps (Frag.In.keeps XB B.stays) F.keep
  refine wpAny_call ?_
  refine enterT (i := 32) (j := some 6) (binds := [(Str.ofString "self", .ref c), (Str.ofString "key", .int key tk)]) (by rfl) B F Ns Nr (fun q hq r hr => hoff q hq r.1 (List.mem_map_of_mem hr)) XB TB DD rfl rfl hk (by k_is) (by k_is) (by ktr_room) (by first | exact BindsTo.of_eq rfl | exact binds_K Xs rfl (by k_is) rfl rfl rfl) (locs rfl) ?_ rfl rfl rfl (by decide)
  intro g' L' h' FG' F' N' B' X' T' D'
  (try dsimp only); (try k_lift B')
  k_steps
  all_goals (first | exact hret _ _ _ _ (by assumption) (by assumption) (n_app (by assumption) (fun _ h => h) (by assumption)) (by assumption) (by assumption) (by first | assumption | exact rfl | omega) | (refine hret _ _ _ _ (by assumption) (by assumption) (n_app (by assumption) ?_ (by assumption)) (by assumption) (by assumption) (by first | assumption | exact rfl | omega); kcj_all) | w_report)
end
end
-- part W6
section
local macro_rules | `(tactic| walk_at "call ref") => `(tactic| (k_here; (try dsimp only [List.nil_append, List.cons_append]); (with_reducible show wpAny _ _ (call (Value.ref _) [Value.ref _, Value.int _ _]) _ _ _); k_dflt (refine' c_del0 (rest := []) ?zqB ?zqF ?zqX ?zqT ?zqhk ?zqNs ?zqNr ?zqhoff ?zqhd ?zqho ?zql1 ?zql2 ?zqo1 ?zqo2 ?zqo3 ?zqz1 ?zqz2 ?zqhv ?zqhn0 ?zqhn1 ?zqdp ?zqun ?_; (case zqB => k_asm); (case zqF => k_asm); (case zqX => k_asm); (case zqT => k_asm); (case zqhk => first | rfl | assumption); (case zqNs => first | k_asm | exact n_sub (by assumption) (by kcj_all)); (case zqNr => exact News.nil); (case zqhoff => intro _ h; cases h); (case zqhd => assumption); (case zqho => assumption); (case zql1 => assumption); (case zql2 => assumption); (case zqo1 => first | assumption | omega); (case zqo2 => first | assumption | omega); (case zqo3 => first | assumption | omega); (case zqz1 => first | omega | exact Nat.le_trans stored_len (by omega) | exact Nat.le_trans without_len (by omega) | exact Nat.le_trans stored_len (Nat.succ_le_succ (Nat.le_trans without_len (by omega)))); (case zqz2 => first | omega | exact Nat.le_trans stored_len (by omega) | exact Nat.le_trans without_len (by omega)); (case zqhv => first | assumption | exact rfl | omega); (case zqhn0 => first | assumption | exact rfl | omega); (case zqhn1 => first | assumption | exact rfl | omega); (case zqdp => ktr_room); (case zqun => ktr_units)); intro h9 tk9 od9 t9 F9 N9 I9; (try simp only [List.append_nil, List.cons_append, List.nil_append] at N9); (try dsimp only); (try k_fold)))
local macro_rules | `(tactic| walk_at "call ref") => `(tactic| (k_here; (try dsimp only [List.nil_append, List.cons_append]); (with_reducible show wpAny _ _ (call (Value.ref _) [Value.ref _, Value.int _ _]) _ _ _); k_dflt (refine' c_read (rest := []) ?zqB ?zqF ?zqX ?zqT ?zqhk ?zqNs ?zqNr ?zqhoff ?zqhd ?zqho ?zql1 ?zql2 ?zqo1 ?zqo2 ?zqo3 ?zqz1 ?zqz2 ?zqhv ?zqdp ?zqun ?_; (case zqB => k_asm); (case zqF => k_asm); (case zqX => k_asm); (case zqT => k_asm); (case zqhk => first | rfl | assumption); (case zqNs => first | k_asm | exact n_sub (by assumption) (by kcj_all)); (case zqNr => exact News.nil); (case zqhoff => intro _ h; cases h); (case zqhd => assumption); (case zqho => assumption); (case zql1 => assumption); (case zql2 => assumption); (case zqo1 => first | assumption | omega); (case zqo2 => first | assumption | omega); (case zqo3 => first | assumption | omega); (case zqz1 => first | omega | exact Nat.le_trans stored_len (by omega) | exact Nat.le_trans without_len (by omega) | exact Nat.le_trans stored_len (Nat.succ_le_succ (Nat.le_trans without_len (by omega)))); (case zqz2 => first | omega | exact Nat.le_trans stored_len (by omega) | exact Nat.le_trans without_len (by omega)); (case zqhv => first | assumption | exact rfl | omega); (case zqdp => ktr_room); (case zqun => ktr_units)); intro h9 tk9 F9 N9; (try simp only [List.append_nil, List.cons_append, List.nil_append] at N9); (try dsimp only); (try k_fold)))
section
variable {w : World} {mean : ExcName → Option Value} {mg mb : Str → Option Value} {dp un : Nat} {gd : Option (List Code)} {cn : Str} {cs : Scope} {a : Addr} {ccd : Value} {cl : List (Str × Addr)} {outer : List Env} {A₀ : Around} {base h₀ : Heap} {L : Addr} {m : Str → Option Value} {s : Shared} {Q E : Value → Shared → Prop}
variable {c dx da oa : Addr} {od oo : Obj} {n p : Int} {t0 t1 t2 t3 t4 t5 : Tok} {nn : Nat} {rest : List (Addr × Obj)} {D O : List (Int × Value)} {key : Int} {tk : Tok} {v x : Value}
variable (B : Below A₀ base outer h₀) (F : Fr h₀ L s.heap m) (X : (KF w.params).In h₀) (T : Top qv (looseW qv lo) mean mg mb h₀) (hk : cs.kind = .function)
  (Ns : News h₀ L s.heap (cL c dx da oa (dictOf (cEs w.params da oa n p t0 t1 t2 t3 t4 t5) 4) od oo)) (Nr : News h₀ L s.heap rest) (hoff : ∀ q ∈ rest, ∀ r ∈ [c, dx, da, oa], q.1 ≠ r)
  (hd : od.IsDictOf (intKind PW w) D) (ho : oo.IsDictOf (intKind PW w) O) (lo1 : (da == sysModules) = false) (lo2 : (oa == sysModules) = false) (o1 : @LT.lt Nat _ dx c) (o2 : @LT.lt Nat _ c da) (o3 : @LT.lt Nat _ da oa) (hz1 : D.length ≤ 50) (hz2 : O.length ≤ 50)
include B F X T hk Ns Nr hoff hd ho lo1 lo2 o1 o2 o3 hz1 hz2
theorem c_del (hv : (valueAt D key).isSome = true) (hw : (valueAt O key).isSome = true) (hn0 : 0 ≤ n) (hn1 : n ≤ 100) (hdp : dp + 10 < recursionLimit) (hun : un + 100 < cLine)
    (hret : ∀ h' tk' od' oo' t2', Fr h₀ L h' m → News h₀ L h' (cL c dx da oa (dictOf (cEs w.params da oa (n - 1) p t0 t1 t2' t3 t4 t5) 4) od' oo' ++ rest) → od'.IsDictOf (intKind PW w) (without D key) → oo'.IsDictOf (intKind PW w) (without O key) → Q .none { s with heap := h', toks := tk' }) :
    wpAny (model PW w) (ktrTop dp un gd cn cs L a ccd cl outer) (call (.ref 873) [.ref c, .int key tk]) Q E s := by
  refine wpAny_call ?_
  refine enterS (i := 32) (j := some 3) (binds := [(Str.ofString "self", .ref c), (Str.ofString "key", .int key tk), (Str.ofString "cache_delitem", .ref 742)]) (by rfl) B F X Ns Nr (fun q hq r hr => hoff q hq r.1 (List.mem_map_of_mem hr)) T rfl rfl hk (by k_is) (by k_is) (by ktr_room) (by first | exact BindsTo.of_eq rfl | exact binds_K (by k_in) rfl (by k_is) rfl rfl rfl) (locs rfl) ?_ rfl rfl rfl (by decide)
  intro g' L' h' FG' F' N' B' X' T'
  (try dsimp only); (try k_lift B'); (try k_fold)
  k_steps
  all_goals (first | exact hret _ _ _ _ _ (by assumption) (n_app (by assumption) (fun _ h => h) (by assumption)) (by first | assumption | exact rfl | omega) (by first | assumption | exact rfl | omega) | (refine hret _ _ _ _ _ (by assumption) (n_app (by assumption) ?_ (by assumption)) (by first | assumption | exact rfl | omega) (by first | assumption | exact rfl | omega); kcj_all) | w_report)
local macro_rules | `(tactic| walk_at "call ref") => `(tactic| (k_here; (try dsimp only [List.nil_append, List.cons_append]); (with_reducible show wpAny _ _ (call (Value.ref _) [Value.ref _, Value.int _ _]) _ _ _); k_dflt (refine' c_del (rest := []) ?zqB ?zqF ?zqX ?zqT ?zqhk ?zqNs ?zqNr ?zqhoff ?zqhd ?zqho ?zql1 ?zql2 ?zqo1 ?zqo2 ?zqo3 ?zqz1 ?zqz2 ?zqhv ?zqhw ?zqhn0 ?zqhn1 ?zqdp ?zqun ?_; (case zqB => k_asm); (case zqF => k_asm); (case zqX => k_asm); (case zqT => k_asm); (case zqhk => first | rfl | assumption); (case zqNs => first | k_asm | exact n_sub (by assumption) (by kcj_all)); (case zqNr => exact News.nil); (case zqhoff => intro _ h; cases h); (case zqhd => assumption); (case zqho => assumption); (case zql1 => assumption); (case zql2 => assumption); (case zqo1 => first | assumption | omega); (case zqo2 => first | assumption | omega); (case zqo3 => first | assumption | omega); (case zqz1 => first | omega | exact Nat.le_trans stored_len (by omega) | exact Nat.le_trans without_len (by omega) | exact Nat.le_trans stored_len (Nat.succ_le_succ (Nat.le_trans without_len (by omega)))); (case zqz2 => first | omega | exact Nat.le_trans stored_len (by omega) | exact Nat.le_trans without_len (by omega)); (case zqhv => first | assumption | exact rfl | omega); (case zqhw => first | assumption | exact rfl | omega); (case zqhn0 => first | assumption | exact rfl | omega); (case zqhn1 => first | assumption | exact rfl | omega); (case zqdp => ktr_room); (case zqun => ktr_units)); intro h9 tk9 od9 oo9 t9 F9 N9 I9 J9; (try simp only [List.append_nil, List.cons_append, List.nil_append] at N9); (try dsimp only); (try k_fold)))
theorem c_clear0  (hdp : dp + 5 < recursionLimit) (hun : un + 50 < cLine)
    (hret : ∀ h' tk' od' t2', Fr h₀ L h' m → News h₀ L h' (cL c dx da oa (dictOf (cEs w.params da oa 0 p t0 t1 t2' t3 t4 t5) 4) od' oo ++ rest) → od'.IsDictOf (intKind PW w) ([] : List (Int × Value)) → Q .none { s with heap := h', toks := tk' }) :
    wpAny (model PW w) (ktrTop dp un gd cn cs L a ccd cl outer) (call (.ref 801) [.ref c]) Q E s := by
  refine wpAny_call ?_
  refine enterS (i := 31) (j := some 14) (binds := [(Str.ofString "self", .ref c)]) (by rfl) B F X Ns Nr (fun q hq r hr => hoff q hq r.1 (List.mem_map_of_mem hr)) T rfl rfl hk (by k_is) (by k_is) (by ktr_room) (by first | exact BindsTo.of_eq rfl | exact binds_K (by k_in) rfl (by k_is) rfl rfl rfl) (locs rfl) ?_ rfl rfl rfl (by decide)
  intro g' L' h' FG' F' N' B' X' T'
  (try dsimp only); (try k_lift B'); (try k_fold)
  k_steps
  all_goals (first | exact hret _ _ _ _ (by assumption) (n_app (by assumption) (fun _ h => h) (by assumption)) (by first | assumption | exact rfl | omega) | (refine hret _ _ _ _ (by assumption) (n_app (by assumption) ?_ (by assumption)) (by first | assumption | exact rfl | omega); kcj_all) | w_report)
local macro_rules | `(tactic| walk_at "call ref") => `(tactic| (k_here; (try dsimp only [List.nil_append, List.cons_append]); (with_reducible show wpAny _ _ (call (Value.ref _) [Value.ref _]) _ _ _); k_dflt (refine' c_clear0 (rest := []) ?zqB ?zqF ?zqX ?zqT ?zqhk ?zqNs ?zqNr ?zqhoff ?zqhd ?zqho ?zql1 ?zql2 ?zqo1 ?zqo2 ?zqo3 ?zqz1 ?zqz2  ?zqdp ?zqun ?_; (case zqB => k_asm); (case zqF => k_asm); (case zqX => k_asm); (case zqT => k_asm); (case zqhk => first | rfl | assumption); (case zqNs => first | k_asm | exact n_sub (by assumption) (by kcj_all)); (case zqNr => exact News.nil); (case zqhoff => intro _ h; cases h); (case zqhd => assumption); (case zqho => assumption); (case zql1 => assumption); (case zql2 => assumption); (case zqo1 => first | assumption | omega); (case zqo2 => first | assumption | omega); (case zqo3 => first | assumption | omega); (case zqz1 => first | omega | exact Nat.le_trans stored_len (by omega) | exact Nat.le_trans without_len (by omega) | exact Nat.le_trans stored_len (Nat.succ_le_succ (Nat.le_trans without_len (by omega)))); (case zqz2 => first | omega | exact Nat.le_trans stored_len (by omega) | exact Nat.le_trans without_len (by omega)); (case zqdp => ktr_room); (case zqun => ktr_units)); intro h9 tk9 od9 t9 F9 N9 I9; (try simp only [List.append_nil, List.cons_append, List.nil_append] at N9); (try dsimp only); (try k_fold)))
theorem c_clear  (hdp : dp + 10 < recursionLimit) (hun : un + 100 < cLine)
    (hret : ∀ h' tk' od' oo' t2', Fr h₀ L h' m → News h₀ L h' (cL c dx da oa (dictOf (cEs w.params da oa 0 p t0 t1 t2' t3 t4 t5) 4) od' oo' ++ rest) → od'.IsDictOf (intKind PW w) ([] : List (Int × Value)) → oo'.IsDictOf (intKind PW w) ([] : List (Int × Value)) → Q .none { s with heap := h', toks := tk' }) :
    wpAny (model PW w) (ktrTop dp un gd cn cs L a ccd cl outer) (call (.ref 887) [.ref c]) Q E s := by
  refine wpAny_call ?_
  refine enterS (i := 32) (j := some 5) (binds := [(Str.ofString "self", .ref c)]) (by rfl) B F X Ns Nr (fun q hq r hr => hoff q hq r.1 (List.mem_map_of_mem hr)) T rfl rfl hk (by k_is) (by k_is) (by ktr_room) (by first | exact BindsTo.of_eq rfl | exact binds_K (by k_in) rfl (by k_is) rfl rfl rfl) (locs rfl) ?_ rfl rfl rfl (by decide)
  intro g' L' h' FG' F' N' B' X' T'
  (try dsimp only); (try k_lift B'); (try k_fold)
  k_steps
  all_goals (first | exact hret _ _ _ _ _ (by assumption) (n_app (by assumption) (fun _ h => h) (by assumption)) (by first | assumption | exact rfl | omega) (by first | assumption | exact rfl | omega) | (refine hret _ _ _ _ _ (by assumption) (n_app (by assumption) ?_ (by assumption)) (by first | assumption | exact rfl | omega) (by first | assumption | exact rfl | omega); kcj_all) | w_report)
end
end
-- part W7
section
local macro_rules | `(tactic| walk_at "call ref") => `(tactic| (k_here; (try dsimp only [List.nil_append, List.cons_append]); (with_reducible show wpAny _ _ (call (Value.ref _) [Value.ref _, Value.int _ _]) _ _ _); k_dflt (refine' c_del0 (rest := []) ?zqB ?zqF ?zqX ?zqT ?zqhk ?zqNs ?zqNr ?zqhoff ?zqhd ?zqho ?zql1 ?zql2 ?zqo1 ?zqo2 ?zqo3 ?zqz1 ?zqz2 ?zqhv ?zqhn0 ?zqhn1 ?zqdp ?zqun ?_; (case zqB => k_asm); (case zqF => k_asm); (case zqX => k_asm); (case zqT => k_asm); (case zqhk => first | rfl | assumption); (case zqNs => first | k_asm | exact n_sub (by assumption) (by kcj_all)); (case zqNr => exact News.nil); (case zqhoff => intro _ h; cases h); (case zqhd => assumption); (case zqho => assumption); (case zql1 => assumption); (case zql2 => assumption); (case zqo1 => first | assumption | omega); (case zqo2 => first | assumption | omega); (case zqo3 => first | assumption | omega); (case zqz1 => first | omega | exact Nat.le_trans stored_len (by omega) | exact Nat.le_trans without_len (by omega) | exact Nat.le_trans stored_len (Nat.succ_le_succ (Nat.le_trans without_len (by omega)))); (case zqz2 => first | omega | exact Nat.le_trans stored_len (by omega) | exact Nat.le_trans without_len (by omega)); (case zqhv => first | assumption | exact rfl | omega); (case zqhn0 => first | assumption | exact rfl | omega); (case zqhn1 => first | assumption | exact rfl | omega); (case zqdp => ktr_room); (case zqun => ktr_units)); intro h9 tk9 od9 t9 F9 N9 I9; (try simp only [List.append_nil, List.cons_append, List.nil_append] at N9); (try dsimp only); (try k_fold)))
local macro_rules | `(tactic| walk_at "call ref") => `(tactic| (k_here; (try dsimp only [List.nil_append, List.cons_append]); (with_reducible show wpAny _ _ (call (Value.ref _) [Value.ref _, Value.int _ _]) _ _ _); k_dflt (refine' c_read (rest := []) ?zqB ?zqF ?zqX ?zqT ?zqhk ?zqNs ?zqNr ?zqhoff ?zqhd ?zqho ?zql1 ?zql2 ?zqo1 ?zqo2 ?zqo3 ?zqz1 ?zqz2 ?zqhv ?zqdp ?zqun ?_; (case zqB => k_asm); (case zqF => k_asm); (case zqX => k_asm); (case zqT => k_asm); (case zqhk => first | rfl | assumption); (case zqNs => first | k_asm | exact n_sub (by assumption) (by kcj_all)); (case zqNr => exact News.nil); (case zqhoff => intro _ h; cases h); (case zqhd => assumption); (case zqho => assumption); (case zql1 => assumption); (case zql2 => assumption); (case zqo1 => first | assumption | omega); (case zqo2 => first | assumption | omega); (case zqo3 => first | assumption | omega); (case zqz1 => first | omega | exact Nat.le_trans stored_len (by omega) | exact Nat.le_trans without_len (by omega) | exact Nat.le_trans stored_len (Nat.succ_le_succ (Nat.le_trans without_len (by omega)))); (case zqz2 => first | omega | exact Nat.le_trans stored_len (by omega) | exact Nat.le_trans without_len (by omega)); (case zqhv => first | assumption | exact rfl | omega); (case zqdp => ktr_room); (case zqun => ktr_units)); intro h9 tk9 F9 N9; (try simp only [List.append_nil, List.cons_append, List.nil_append] at N9); (try dsimp only); (try k_fold)))
local macro_rules | `(tactic| walk_at "call ref") => `(tactic| (k_here; (try dsimp only [List.nil_append, List.cons_append]); (with_reducible show wpAny _ _ (call (Value.ref _) [Value.ref _, Value.int _ _]) _ _ _); k_dflt (refine' c_del (rest := []) ?zqB ?zqF ?zqX ?zqT ?zqhk ?zqNs ?zqNr ?zqhoff ?zqhd ?zqho ?zql1 ?zql2 ?zqo1 ?zqo2 ?zqo3 ?zqz1 ?zqz2 ?zqhv ?zqhw ?zqhn0 ?zqhn1 ?zqdp ?zqun ?_; (case zqB => k_asm); (case zqF => k_asm); (case zqX => k_asm); (case zqT => k_asm); (case zqhk => first | rfl | assumption); (case zqNs => first | k_asm | exact n_sub (by assumption) (by kcj_all)); (case zqNr => exact News.nil); (case zqhoff => intro _ h; cases h); (case zqhd => assumption); (case zqho => assumption); (case zql1 => assumption); (case zql2 => assumption); (case zqo1 => first | assumption | omega); (case zqo2 => first | assumption | omega); (case zqo3 => first | assumption | omega); (case zqz1 => first | omega | exact Nat.le_trans stored_len (by omega) | exact Nat.le_trans without_len (by omega) | exact Nat.le_trans stored_len (Nat.succ_le_succ (Nat.le_trans without_len (by omega)))); (case zqz2 => first | omega | exact Nat.le_trans stored_len (by omega) | exact Nat.le_trans without_len (by omega)); (case zqhv => first | assumption | exact rfl | omega); (case zqhw => first | assumption | exact rfl | omega); (case zqhn0 => first | assumption | exact rfl | omega); (case zqhn1 => first | assumption | exact rfl | omega); (case zqdp => ktr_room); (case zqun => ktr_units)); intro h9 tk9 od9 oo9 t9 F9 N9 I9 J9; (try simp only [List.append_nil, List.cons_append, List.nil_append] at N9); (try dsimp only); (try k_fold)))
section
variable {w : World} {mean : ExcName → Option Value} {mg mb : Str → Option Value} {dp un : Nat} {gd : Option (List Code)} {cn : Str} {cs : Scope} {a : Addr} {ccd : Value} {cl : List (Str × Addr)} {outer : List Env} {A₀ : Around} {base h₀ : Heap} {L : Addr} {m : Str → Option Value} {s : Shared} {Q E : Value → Shared → Prop}
variable {c dx da oa : Addr} {od oo : Obj} {n p : Int} {t0 t1 t2 t3 t4 t5 : Tok} {nn : Nat} {rest : List (Addr × Obj)} {D O : List (Int × Value)} {key : Int} {tk : Tok} {v x : Value}
variable (B : Below A₀ base outer h₀) (F : Fr h₀ L s.heap m) (X : (KF w.params).In h₀) (T : Top qv (looseW qv lo) mean mg mb h₀) (hk : cs.kind = .function)
  (Ns : News h₀ L s.heap (cL c dx da oa (dictOf (cEs w.params da oa n p t0 t1 t2 t3 t4 t5) 4) od oo)) (Nr : News h₀ L s.heap rest) (hoff : ∀ q ∈ rest, ∀ r ∈ [c, dx, da, oa], q.1 ≠ r)
  (hd : od.IsDictOf (intKind PW w) D) (ho : oo.IsDictOf (intKind PW w) O) (lo1 : (da == sysModules) = false) (lo2 : (oa == sysModules) = false) (o1 : @LT.lt Nat _ dx c) (o2 : @LT.lt Nat _ c da) (o3 : @LT.lt Nat _ da oa) (hz1 : D.length ≤ 50) (hz2 : O.length ≤ 50)
include B F X T hk Ns Nr hoff hd ho lo1 lo2 o1 o2 o3 hz1 hz2
theorem c_popitem {k0 : Int} {x0 : Value} {O' : List (Int × Value)} (hO : O = (k0, x0) :: O') (hv : valueAt D k0 = some v) (hn0 : 0 ≤ n) (hn1 : n ≤ 100) (hdp : dp + 15 < recursionLimit) (hun : un + 150 < cLine)
    (hret : ∀ h' tk' od' oo' t2' ta tk0, Fr h₀ L h' m → News h₀ L h' ((ta, { cls := .type "tuple", data := .seq #[.int k0 tk0, v] }) :: cL c dx da oa (dictOf (cEs w.params da oa (n - 1) p t0 t1 t2' t3 t4 t5) 4) od' oo' ++ rest) → od'.IsDictOf (intKind PW w) (without D k0) → oo'.IsDictOf (intKind PW w) (without O k0) →
      @LT.lt Nat _ oa ta → (∀ q ∈ rest, @Ne Nat q.1 ta) → Q (.ref ta) { s with heap := h', toks := tk' }) :
    wpAny (model PW w) (ktrTop dp un gd cn cs L a ccd cl outer) (call (.ref 880) [.ref c]) Q E s := by
  refine wpAny_call ?_
  refine enterP (i := 32) (j := some 4) (binds := [(Str.ofString "self", .ref c)]) (by rfl) B F X Ns Nr (fun q hq r hr => hoff q hq r.1 (List.mem_map_of_mem hr)) T rfl rfl hk (by k_is) (by k_is) (by ktr_room) (by first | exact BindsTo.of_eq rfl | exact binds_K (by k_in) rfl (by k_is) rfl rfl rfl) (locs rfl) ?_ rfl rfl rfl (by decide)
  intro g' L' h' FG' F' N' B' X' T'
  (try dsimp only); (try k_lift B'); (try k_fold)
  subst hO
  have hw0 : (valueAt ((k0, x0) :: O') k0).isSome = true := by simp [valueAt]
  have hv0 : (valueAt D k0).isSome = true := by rw [hv]; rfl
  k_steps
  rename_i Z9 R9 F9 N9
  exact hret _ _ _ _ _ _ _ F9 (n_app N9 (fun _ h => h) R9) (by assumption) (by assumption) (by omega) (fun q hq => Z9 q hq _ List.mem_cons_self)
end
end
-- part W8
section
section
variable {w : World} {mean : ExcName → Option Value} {mg mb : Str → Option Value} {dp un : Nat} {gd : Option (List Code)} {cn : Str} {cs : Scope} {a : Addr} {ccd : Value} {cl : List (Str × Addr)} {outer : List Env} {A₀ : Around} {base h₀ : Heap} {L : Addr} {m : Str → Option Value} {s : Shared} {Q E : Value → Shared → Prop}
variable {c dx da oa : Addr} {od oo : Obj} {n p : Int} {t0 t1 t2 t3 t4 t5 : Tok} {nn : Nat} {rest : List (Addr × Obj)} {D O : List (Int × Value)} {key : Int} {tk : Tok} {v x val : Value} {tv : Tok}
variable (B : Below A₀ base outer h₀) (F : Fr h₀ L s.heap m) (X : (KF w.params).In h₀) (T : Top qv (looseW qv lo) mean mg mb h₀) (hk : cs.kind = .function)
  (Ns : News h₀ L s.heap (cL c dx da oa (dictOf (cEs w.params da oa n p t0 t1 t2 t3 t4 t5) 4) od oo)) (Nr : News h₀ L s.heap rest) (hoff : ∀ q ∈ rest, ∀ r ∈ [c, dx, da, oa], q.1 ≠ r)
  (hd : od.IsDictOf (intKind PW w) D) (ho : oo.IsDictOf (intKind PW w) O) (lo1 : (da == sysModules) = false) (lo2 : (oa == sysModules) = false) (o1 : @LT.lt Nat _ dx c) (o2 : @LT.lt Nat _ c da) (o3 : @LT.lt Nat _ da oa) (hz1 : D.length ≤ 50) (hz2 : O.length ≤ 50)
include B F X T hk Ns Nr hoff hd ho lo1 lo2 o1 o2 o3 hz1 hz2
theorem c_set0in (hv : valueAt D key = some v) (hp1 : 1 ≤ p) (hp2 : p ≤ 20) (hdp : dp + 5 < recursionLimit) (hun : un + 50 < cLine)
    (hret : ∀ h' tk' od', Fr h₀ L h' m → News h₀ L h' (cL c dx da oa (dictOf (cEs w.params da oa n p t0 t1 t2 t3 t4 t5) 4) od' oo ++ rest) → od'.IsDictOf (intKind PW w) (stored D key val) → Q .none { s with heap := h', toks := tk' }) :
    wpAny (model PW w) (ktrTop dp un gd cn cs L a ccd cl outer) (call (.ref 735) [.ref c, .int key tk, val]) Q E s := by
  refine wpAny_call ?_
  refine enterS (i := 31) (j := some 5) (binds := [(Str.ofString "self", .ref c), (Str.ofString "key", .int key tk), (Str.ofString "value", val)]) (by rfl) B F X Ns Nr (fun q hq r hr => hoff q hq r.1 (List.mem_map_of_mem hr)) T rfl rfl hk (by k_is) (by k_is) (by ktr_room) (by first | exact BindsTo.of_eq rfl | exact binds_K (by k_in) rfl (by k_is) rfl rfl rfl) (locs rfl) ?_ rfl rfl rfl (by decide)
  intro g' L' h' FG' F' N' B' X' T'
  (try dsimp only); (try k_lift B'); (try k_fold)
  k_steps
  all_goals (first | exact hret _ _ _ (by assumption) (n_app (by assumption) (fun _ h => h) (by assumption)) (by first | assumption | exact rfl | omega) | (refine hret _ _ _ (by assumption) (n_app (by assumption) ?_ (by assumption)) (by first | assumption | exact rfl | omega); kcj_all) | w_report)
theorem c_set0room (hv : valueAt D key = none) (hp1 : 1 ≤ p) (hp2 : p ≤ 20) (hn0 : 0 ≤ n) (hn1 : n < p) (hdp : dp + 5 < recursionLimit) (hun : un + 50 < cLine)
    (hret : ∀ h' tk' od' t2', Fr h₀ L h' m → News h₀ L h' (cL c dx da oa (dictOf (cEs w.params da oa (n + 1) p t0 t1 t2' t3 t4 t5) 4) od' oo ++ rest) → od'.IsDictOf (intKind PW w) (stored D key val) → Q .none { s with heap := h', toks := tk' }) :
    wpAny (model PW w) (ktrTop dp un gd cn cs L a ccd cl outer) (call (.ref 735) [.ref c, .int key tk, val]) Q E s := by
  refine wpAny_call ?_
  refine enterS (i := 31) (j := some 5) (binds := [(Str.ofString "self", .ref c), (Str.ofString "key", .int key tk), (Str.ofString "value", val)]) (by rfl) B F X Ns Nr (fun q hq r hr => hoff q hq r.1 (List.mem_map_of_mem hr)) T rfl rfl hk (by k_is) (by k_is) (by ktr_room) (by first | exact BindsTo.of_eq rfl | exact binds_K (by k_in) rfl (by k_is) rfl rfl rfl) (locs rfl) ?_ rfl rfl rfl (by decide)
  intro g' L' h' FG' F' N' B' X' T'
  (try dsimp only); (try k_lift B'); (try k_fold)
  k_steps
  all_goals (first | exact hret _ _ _ _ (by assumption) (n_app (by assumption) (fun _ h => h) (by assumption)) (by first | assumption | exact rfl | omega) | (refine hret _ _ _ _ (by assumption) (n_app (by assumption) ?_ (by assumption)) (by first | assumption | exact rfl | omega); kcj_all) | w_report)
local macro_rules | `(tactic| walk_at "call ref") => `(tactic| (k_here; (try dsimp only [List.nil_append, List.cons_append]); (with_reducible show wpAny _ _ (call (Value.ref _) [Value.ref _]) _ _ _); k_dflt (refine' c_popitem (rest := []) ?zqB ?zqF ?zqX ?zqT ?zqhk ?zqNs ?zqNr ?zqhoff ?zqhd ?zqho ?zql1 ?zql2 ?zqo1 ?zqo2 ?zqo3 ?zqz1 ?zqz2 ?zqhO ?zqhv ?zqhn0 ?zqhn1 ?zqdp ?zqun ?_; (case zqB => k_asm); (case zqF => k_asm); (case zqX => k_asm); (case zqT => k_asm); (case zqhk => first | rfl | assumption); (case zqNs => first | k_asm | exact n_sub (by assumption) (by kcj_all)); (case zqNr => exact News.nil); (case zqhoff => intro _ h; cases h); (case zqhd => assumption); (case zqho => assumption); (case zql1 => assumption); (case zql2 => assumption); (case zqo1 => first | assumption | omega); (case zqo2 => first | assumption | omega); (case zqo3 => first | assumption | omega); (case zqz1 => first | omega | exact Nat.le_trans stored_len (by omega) | exact Nat.le_trans without_len (by omega) | exact Nat.le_trans stored_len (Nat.succ_le_succ (Nat.le_trans without_len (by omega)))); (case zqz2 => first | omega | exact Nat.le_trans stored_len (by omega) | exact Nat.le_trans without_len (by omega)); (case zqhO => first | assumption | exact rfl | omega); (case zqhv => first | assumption | exact rfl | omega); (case zqhn0 => first | assumption | exact rfl | omega); (case zqhn1 => first | assumption | exact rfl | omega); (case zqdp => ktr_room); (case zqun => ktr_units)); intro h9 tk9 od9 oo9 t9 ta9 tk09 F9 N9 I9 J9 V9 Z9; (try simp only [List.append_nil, List.cons_append, List.nil_append] at N9); (replace N9 := n_sub N9 (fun _ h => List.mem_cons_of_mem _ h)); (try dsimp only); (try k_fold)))
theorem c_set0full {k0 : Int} {x0 : Value} {O' : List (Int × Value)} (hO : O = (k0, x0) :: O') (hw : valueAt D k0 = some v) (hv : valueAt D key = none) (hp1 : 1 ≤ p) (hp2 : p ≤ 20) (hn0 : 0 ≤ n) (hn1 : n = p) (hdp : dp + 20 < recursionLimit) (hun : un + 200 < cLine)
    (hret : ∀ h' tk' od' oo' t2', Fr h₀ L h' m → News h₀ L h' (cL c dx da oa (dictOf (cEs w.params da oa (n - 1 + 1) p t0 t1 t2' t3 t4 t5) 4) od' oo' ++ rest) → od'.IsDictOf (intKind PW w) (stored (without D k0) key val) → oo'.IsDictOf (intKind PW w) (without O k0) → Q .none { s with heap := h', toks := tk' }) :
    wpAny (model PW w) (ktrTop dp un gd cn cs L a ccd cl outer) (call (.ref 735) [.ref c, .int key tk, val]) Q E s := by
  refine wpAny_call ?_
  refine enterS (i := 31) (j := some 5) (binds := [(Str.ofString "self", .ref c), (Str.ofString "key", .int key tk), (Str.ofString "value", val)]) (by rfl) B F X Ns Nr (fun q hq r hr => hoff q hq r.1 (List.mem_map_of_mem hr)) T rfl rfl hk (by k_is) (by k_is) (by ktr_room) (by first | exact BindsTo.of_eq rfl | exact binds_K (by k_in) rfl (by k_is) rfl rfl rfl) (locs rfl) ?_ rfl rfl rfl (by decide)
  intro g' L' h' FG' F' N' B' X' T'
  (try dsimp only); (try k_lift B'); (try k_fold)
  k_steps
  all_goals (first | exact hret _ _ _ _ _ (by assumption) (n_app (by assumption) (fun _ h => h) (by assumption)) (by first | assumption | exact rfl | omega) (by first | assumption | exact rfl | omega) | (refine hret _ _ _ _ _ (by assumption) (n_app (by assumption) ?_ (by assumption)) (by first | assumption | exact rfl | omega) (by first | assumption | exact rfl | omega); kcj_all) | w_report)
end
end
-- part W9
section
local macro_rules | `(tactic| walk_at "noteFrame ref") => `(tactic| (k_here; (with_reducible rename Heap.NewExc _ _ _ _ => xX'); k_dflt (refine' noteS xX' ?zqF ?zqN ?zqB ?zqD ?zqk; (case zqF => k_asm); (case zqN => k_asm); (case zqB => k_asm); (case zqD => assumption)); clear xX'; intro h' g' tT' tH'; (have bB' := below_turn (by assumption) tT'); (have xB' := up_in (by assumption) bB'); (have tB' := up_top (by assumption) bB'); (have dB' := KtsDicts.turn (by assumption) tT'); (have ttHH' := TT.HeldNA.held tH')))
local macro_rules | `(tactic| walk_at "LeaveT") => `(tactic| (k_dflt (refine' leaveT_ ?zqF ?zqN ?zqT ?_; (case zqF => k_asm); (case zqN => k_asm); (case zqT => first | assumption | exact KtsTurn.trans (by assumption) (by assumption) | exact KtsTurn.refl); k_whole); intro g9 T9 F9 N9 R9 B9 X9 TT9 D9; (try dsimp only)))
local macro_rules | `(tactic| walk_at "call ref") => `(tactic| (k_here; (try dsimp only [List.nil_append, List.cons_append]); (with_reducible show wpAny _ _ (call (Value.ref _) [Value.ref _, Value.int _ _, _]) _ _ _); k_dflt (refine' c_set0in (rest := []) ?zqB ?zqF ?zqX ?zqT ?zqhk ?zqNs ?zqNr ?zqhoff ?zqhd ?zqho ?zql1 ?zql2 ?zqo1 ?zqo2 ?zqo3 ?zqz1 ?zqz2 ?zqhv ?zqhp1 ?zqhp2 ?zqdp ?zqun ?_; (case zqB => k_asm); (case zqF => k_asm); (case zqX => k_asm); (case zqT => k_asm); (case zqhk => first | rfl | assumption); (case zqNs => first | k_asm | exact n_sub (by assumption) (by kcj_all)); (case zqNr => exact News.nil); (case zqhoff => intro _ h; cases h); (case zqhd => assumption); (case zqho => assumption); (case zql1 => assumption); (case zql2 => assumption); (case zqo1 => first | assumption | omega); (case zqo2 => first | assumption | omega); (case zqo3 => first | assumption | omega); (case zqz1 => first | omega | exact Nat.le_trans stored_len (by omega) | exact Nat.le_trans without_len (by omega) | exact Nat.le_trans stored_len (Nat.succ_le_succ (Nat.le_trans without_len (by omega)))); (case zqz2 => first | omega | exact Nat.le_trans stored_len (by omega) | exact Nat.le_trans without_len (by omega)); (case zqhv => first | assumption | exact rfl | omega); (case zqhp1 => first | assumption | exact rfl | omega); (case zqhp2 => first | assumption | exact rfl | omega); (case zqdp => ktr_room); (case zqun => ktr_units)); intro h9 tk9 od9 F9 N9 I9; (try simp only [List.append_nil, List.cons_append, List.nil_append] at N9); (try dsimp only); (try k_fold)))
local macro_rules | `(tactic| walk_at "call ref") => `(tactic| (k_here; (try dsimp only [List.nil_append, List.cons_append]); (with_reducible show wpAny _ _ (call (Value.ref _) [Value.ref _, Value.int _ _]) _ _ _); k_dflt (refine' c_touch (rest := []) ?zqB ?zqF ?zqX ?zqT ?zqhk ?zqNs ?zqNr ?zqhoff ?zqhd ?zqho ?zql1 ?zql2 ?zqo1 ?zqo2 ?zqo3 ?zqz1 ?zqz2 ?zqhx ?zqdp ?zqun ?_; (case zqB => k_asm); (case zqF => k_asm); (case zqX => k_asm); (case zqT => k_asm); (case zqhk => first | rfl | assumption); (case zqNs => first | k_asm | exact n_sub (by assumption) (by kcj_all)); (case zqNr => exact News.nil); (case zqhoff => intro _ h; cases h); (case zqhd => assumption); (case zqho => assumption); (case zql1 => assumption); (case zql2 => assumption); (case zqo1 => first | assumption | omega); (case zqo2 => first | assumption | omega); (case zqo3 => first | assumption | omega); (case zqz1 => first | omega | exact Nat.le_trans stored_len (by omega) | exact Nat.le_trans without_len (by omega) | exact Nat.le_trans stored_len (Nat.succ_le_succ (Nat.le_trans without_len (by omega)))); (case zqz2 => first | omega | exact Nat.le_trans stored_len (by omega) | exact Nat.le_trans without_len (by omega)); (case zqhx => first | assumption | exact rfl | omega); (case zqdp => ktr_room); (case zqun => ktr_units)); intro h9 tk9 oo9 F9 N9 I9; (try simp only [List.append_nil, List.cons_append, List.nil_append] at N9); (try dsimp only); (try k_fold)))
section
variable {w : World} {mean : ExcName → Option Value} {mg mb : Str → Option Value} {dp un : Nat} {gd : Option (List Code)} {cn : Str} {cs : Scope} {a : Addr} {ccd : Value} {cl : List (Str × Addr)} {outer : List Env} {A₀ : Around} {base h₀ : Heap} {L : Addr} {m : Str → Option Value} {s : Shared} {Q E : Value → Shared → Prop}
variable {c dx da oa : Addr} {od oo : Obj} {n p : Int} {t0 t1 t2 t3 t4 t5 : Tok} {nn : Nat} {rest : List (Addr × Obj)} {D O : List (Int × Value)} {key : Int} {tk : Tok} {v x val : Value} {tv : Tok}
variable (B : Below A₀ base outer h₀) (F : Fr h₀ L s.heap m) (X : (KF w.params).In h₀) (T : Top qv (looseW qv lo) mean mg mb h₀) (hk : cs.kind = .function)
  (Ns : News h₀ L s.heap (cL c dx da oa (dictOf (cEs w.params da oa n p t0 t1 t2 t3 t4 t5) 4) od oo)) (Nr : News h₀ L s.heap rest) (hoff : ∀ q ∈ rest, ∀ r ∈ [c, dx, da, oa], q.1 ≠ r)
  (hd : od.IsDictOf (intKind PW w) D) (ho : oo.IsDictOf (intKind PW w) O) (lo1 : (da == sysModules) = false) (lo2 : (oa == sysModules) = false) (o1 : @LT.lt Nat _ dx c) (o2 : @LT.lt Nat _ c da) (o3 : @LT.lt Nat _ da oa) (hz1 : D.length ≤ 40) (hz2 : O.length ≤ 40)
include B F X T hk Ns Nr hoff hd ho lo1 lo2 o1 o2 o3 hz1 hz2
theorem c_setin (hv : valueAt D key = some v) (hx : valueAt O key = some x) (hp1 : 1 ≤ p) (hp2 : p ≤ 20) (hdp : dp + 10 < recursionLimit) (hun : un + 100 < cLine)
    (hret : ∀ h' tk' od' oo', Fr h₀ L h' m → News h₀ L h' (cL c dx da oa (dictOf (cEs w.params da oa n p t0 t1 t2 t3 t4 t5) 4) od' oo' ++ rest) → od'.IsDictOf (intKind PW w) (stored D key val) → oo'.IsDictOf (intKind PW w) (stored (without O key) key x) → Q .none { s with heap := h', toks := tk' }) :
    wpAny (model PW w) (ktrTop dp un gd cn cs L a ccd cl outer) (call (.ref 865) [.ref c, .int key tk, val]) Q E s := by
  refine wpAny_call ?_
  refine enterS (i := 32) (j := some 2) (binds := [(Str.ofString "self", .ref c), (Str.ofString "key", .int key tk), (Str.ofString "value", val), (Str.ofString "cache_setitem", .ref 735)]) (by rfl) B F X Ns Nr (fun q hq r hr => hoff q hq r.1 (List.mem_map_of_mem hr)) T rfl rfl hk (by k_is) (by k_is) (by ktr_room) (by first | exact BindsTo.of_eq rfl | exact binds_K (by k_in) rfl (by k_is) rfl rfl rfl) (locs rfl) ?_ rfl rfl rfl (by decide)
  intro g' L' h' FG' F' N' B' X' T'
  (try dsimp only); (try k_lift B'); (try k_fold)
  k_steps
  all_goals (first | exact hret _ _ _ _ (by assumption) (n_app (by assumption) (fun _ h => h) (by assumption)) (by first | assumption | exact rfl | omega) (by first | assumption | exact rfl | omega) | (refine hret _ _ _ _ (by assumption) (n_app (by assumption) ?_ (by assumption)) (by first | assumption | exact rfl | omega) (by first | assumption | exact rfl | omega); kcj_all) | w_report)
end
local macro_rules | `(tactic| walk_at "call ref") => `(tactic| (k_here; (try dsimp only [List.nil_append, List.cons_append]); (with_reducible show wpAny _ _ (call (Value.ref _) [Value.ref _, Value.int _ _, _]) _ _ _); k_dflt (refine' c_set0room (rest := []) ?zqB ?zqF ?zqX ?zqT ?zqhk ?zqNs ?zqNr ?zqhoff ?zqhd ?zqho ?zql1 ?zql2 ?zqo1 ?zqo2 ?zqo3 ?zqz1 ?zqz2 ?zqhv ?zqhp1 ?zqhp2 ?zqhn0 ?zqhn1 ?zqdp ?zqun ?_; (case zqB => k_asm); (case zqF => k_asm); (case zqX => k_asm); (case zqT => k_asm); (case zqhk => first | rfl | assumption); (case zqNs => first | k_asm | exact n_sub (by assumption) (by kcj_all)); (case zqNr => exact News.nil); (case zqhoff => intro _ h; cases h); (case zqhd => assumption); (case zqho => assumption); (case zql1 => assumption); (case zql2 => assumption); (case zqo1 => first | assumption | omega); (case zqo2 => first | assumption | omega); (case zqo3 => first | assumption | omega); (case zqz1 => first | omega | exact Nat.le_trans stored_len (by omega) | exact Nat.le_trans without_len (by omega) | exact Nat.le_trans stored_len (Nat.succ_le_succ (Nat.le_trans without_len (by omega)))); (case zqz2 => first | omega | exact Nat.le_trans stored_len (by omega) | exact Nat.le_trans without_len (by omega)); (case zqhv => first | assumption | exact rfl | omega); (case zqhp1 => first | assumption | exact rfl | omega); (case zqhp2 => first | assumption | exact rfl | omega); (case zqhn0 => first | assumption | exact rfl | omega); (case zqhn1 => first | assumption | exact rfl | omega); (case zqdp => ktr_room); (case zqun => ktr_units)); intro h9 tk9 od9 t9 F9 N9 I9; (try simp only [List.append_nil, List.cons_append, List.nil_append] at N9); (try dsimp only); (try k_fold)))
local macro_rules | `(tactic| walk_at "call ref") => `(tactic| (k_here; (try dsimp only [List.nil_append, List.cons_append]); (with_reducible show wpAny _ _ (call (Value.ref _) [Value.ref _, Value.int _ _]) _ _ _); k_dflt (refine' c_touchN (rest := []) ?zqB ?zqF ?zqXB ?zqTB ?zqDD ?zqhk ?zqNs ?zqNr ?zqhoff ?zqhd ?zqho ?zql1 ?zql2 ?zqo1 ?zqo2 ?zqo3 ?zqz1 ?zqz2 ?zqhx ?zqdp ?zqun ?_; (case zqB => k_asm); (case zqF => k_asm); (case zqXB => assumption); (case zqTB => assumption); (case zqDD => assumption); (case zqhk => first | rfl | assumption); (case zqNs => first | k_asm | exact n_sub (by assumption) (by kcj_all)); (case zqNr => exact News.nil); (case zqhoff => intro _ h; cases h); (case zqhd => assumption); (case zqho => assumption); (case zql1 => assumption); (case zql2 => assumption); (case zqo1 => first | assumption | omega); (case zqo2 => first | assumption | omega); (case zqo3 => first | assumption | omega); (case zqz1 => first | omega | exact Nat.le_trans stored_len (by omega) | exact Nat.le_trans without_len (by omega) | exact Nat.le_trans stored_len (Nat.succ_le_succ (Nat.le_trans without_len (by omega)))); (case zqz2 => first | omega | exact Nat.le_trans stored_len (by omega) | exact Nat.le_trans without_len (by omega)); (case zqhx => first | assumption | exact rfl | omega); (case zqdp => ktr_room); (case zqun => ktr_units)); intro h9 tk9 g9 oo9 T9 F9 N9 B9 D9 I9; (have X9 := up_in (by assumption) B9); (have TT9 := up_top (by assumption) B9); (try simp only [List.append_nil, List.cons_append, List.nil_append] at N9); (try dsimp only); (try k_fold)))
section
variable {w : World} {mean : ExcName → Option Value} {mg mb : Str → Option Value} {dp un : Nat} {gd : Option (List Code)} {cn : Str} {cs : Scope} {a : Addr} {ccd : Value} {cl : List (Str × Addr)} {outer : List Env} {A₀ : Around} {base h₀ : Heap} {L : Addr} {m : Str → Option Value} {s : Shared} {Q E : Value → Shared → Prop}
variable {c dx da oa : Addr} {od oo : Obj} {n p : Int} {t0 t1 t2 t3 t4 t5 : Tok} {nn : Nat} {rest : List (Addr × Obj)} {D O : List (Int × Value)} {key : Int} {tk : Tok} {v x val : Value} {tv : Tok}
variable (B : Below A₀ base outer h₀) (F : Fr h₀ L s.heap m) (XB : (KF w.params).In base) (TB : Top qv (looseW qv lo) mean mg mb base) (DD : KtsDicts (outer.filterMap (·.frame)) h₀) (hk : cs.kind = .function)
  (Ns : News h₀ L s.heap (cL c dx da oa (dictOf (cEs w.params da oa n p t0 t1 t2 t3 t4 t5) 4) od oo)) (Nr : News h₀ L s.heap rest) (hoff : ∀ q ∈ rest, ∀ r ∈ [c, dx, da, oa], q.1 ≠ r)
  (hd : od.IsDictOf (intKind PW w) D) (ho : oo.IsDictOf (intKind PW w) O) (lo1 : (da == sysModules) = false) (lo2 : (oa == sysModules) = false) (o1 : @LT.lt Nat _ dx c) (o2 : @LT.lt Nat _ c da) (o3 : @LT.lt Nat _ da oa) (hz1 : D.length ≤ 40) (hz2 : O.length ≤ 40)
include B F XB TB DD hk Ns Nr hoff hd ho lo1 lo2 o1 o2 o3 hz1 hz2
theorem c_setroom (hv : valueAt D key = none) (hx : valueAt O key = none) (hp1 : 1 ≤ p) (hp2 : p ≤ 20) (hn0 : 0 ≤ n) (hn1 : n < p) (hdp : dp + 10 < recursionLimit) (hun : un + 100 < cLine)
    (hret : ∀ h' tk' g' od' oo' t2', KtsTurn (outer.filterMap (·.frame)) h₀ g' → Fr g' L h' m → News g' L h' (cL c dx da oa (dictOf (cEs w.params da oa (n + 1) p t0 t1 t2' t3 t4 t5) 4) od' oo' ++ rest) → Below A₀ base outer g' → KtsDicts (outer.filterMap (·.frame)) g' → od'.IsDictOf (intKind PW w) (stored D key val) → oo'.IsDictOf (intKind PW w) (stored O key .none) → Q .none { s with heap := h', toks := tk' }) :
    wpAny (model PW w) (ktrTop dp un gd cn cs L a ccd cl outer) (call (.ref 865) [.ref c, .int key tk, val]) Q E s := by
  have Xs := Frag.In.keeps (Frag.In.keeps XB B.stays) F.keep
  refine wpAny_call ?_
  refine enterT (i := 32) (j := some 2) (binds := [(Str.ofString "self", .ref c), (Str.ofString "key", .int key tk), (Str.ofString "value", val), (Str.ofString "cache_setitem", .ref 735)]) (by rfl) B F Ns Nr (fun q hq r hr => hoff q hq r.1 (List.mem_map_of_mem hr)) XB TB DD rfl rfl hk (by k_is) (by k_is) (by ktr_room) (by first | exact BindsTo.of_eq rfl | exact binds_K Xs rfl (by k_is) rfl rfl rfl) (locs rfl) ?_ rfl rfl rfl (by decide)
  intro g' L' h' FG' F' N' B' X' T' D'
  (try dsimp only); (try k_lift B')
  k_steps
  all_goals (first | exact hret _ _ _ _ _ _ (by assumption) (by assumption) (n_app (by assumption) (fun _ h => h) (by assumption)) (by assumption) (by assumption) (by first | assumption | exact rfl | omega) (by first | assumption | exact rfl | omega) | (refine hret _ _ _ _ _ _ (by assumption) (by assumption) (n_app (by assumption) ?_ (by assumption)) (by assumption) (by assumption) (by first | assumption | exact rfl | omega) (by first | assumption | exact rfl | omega); kcj_all) | w_report)
end
local macro_rules | `(tactic| walk_at "call ref") => `(tactic| (k_here; (try dsimp only [List.nil_append, List.cons_append]); (with_reducible show wpAny _ _ (call (Value.ref _) [Value.ref _, Value.int _ _, _]) _ _ _); k_dflt (refine' c_set0full (rest := []) ?zqB ?zqF ?zqX ?zqT ?zqhk ?zqNs ?zqNr ?zqhoff ?zqhd ?zqho ?zql1 ?zql2 ?zqo1 ?zqo2 ?zqo3 ?zqz1 ?zqz2 ?zqhO ?zqhw ?zqhv ?zqhp1 ?zqhp2 ?zqhn0 ?zqhn1 ?zqdp ?zqun ?_; (case zqB => k_asm); (case zqF => k_asm); (case zqX => k_asm); (case zqT => k_asm); (case zqhk => first | rfl | assumption); (case zqNs => first | k_asm | exact n_sub (by assumption) (by kcj_all)); (case zqNr => exact News.nil); (case zqhoff => intro _ h; cases h); (case zqhd => assumption); (case zqho => assumption); (case zql1 => assumption); (case zql2 => assumption); (case zqo1 => first | assumption | omega); (case zqo2 => first | assumption | omega); (case zqo3 => first | assumption | omega); (case zqz1 => first | omega | exact Nat.le_trans stored_len (by omega) | exact Nat.le_trans without_len (by omega) | exact Nat.le_trans stored_len (Nat.succ_le_succ (Nat.le_trans without_len (by omega)))); (case zqz2 => first | omega | exact Nat.le_trans stored_len (by omega) | exact Nat.le_trans without_len (by omega)); (case zqhO => first | assumption | exact rfl | omega); (case zqhw => first | assumption | exact rfl | omega); (case zqhv => first | assumption | exact rfl | omega); (case zqhp1 => first | assumption | exact rfl | omega); (case zqhp2 => first | assumption | exact rfl | omega); (case zqhn0 => first | assumption | exact rfl | omega); (case zqhn1 => first | assumption | exact rfl | omega); (case zqdp => ktr_room); (case zqun => ktr_units)); intro h9 tk9 od9 oo9 t9 F9 N9 I9 J9; (try simp only [List.append_nil, List.cons_append, List.nil_append] at N9); (try dsimp only); (try k_fold)))
section
variable {w : World} {mean : ExcName → Option Value} {mg mb : Str → Option Value} {dp un : Nat} {gd : Option (List Code)} {cn : Str} {cs : Scope} {a : Addr} {ccd : Value} {cl : List (Str × Addr)} {outer : List Env} {A₀ : Around} {base h₀ : Heap} {L : Addr} {m : Str → Option Value} {s : Shared} {Q E : Value → Shared → Prop}
variable {c dx da oa : Addr} {od oo : Obj} {n p : Int} {t0 t1 t2 t3 t4 t5 : Tok} {nn : Nat} {rest : List (Addr × Obj)} {D O : List (Int × Value)} {key : Int} {tk : Tok} {v x val : Value} {tv : Tok}
variable (B : Below A₀ base outer h₀) (F : Fr h₀ L s.heap m) (XB : (KF w.params).In base) (TB : Top qv (looseW qv lo) mean mg mb base) (DD : KtsDicts (outer.filterMap (·.frame)) h₀) (hk : cs.kind = .function)
  (Ns : News h₀ L s.heap (cL c dx da oa (dictOf (cEs w.params da oa n p t0 t1 t2 t3 t4 t5) 4) od oo)) (Nr : News h₀ L s.heap rest) (hoff : ∀ q ∈ rest, ∀ r ∈ [c, dx, da, oa], q.1 ≠ r)
  (hd : od.IsDictOf (intKind PW w) D) (ho : oo.IsDictOf (intKind PW w) O) (lo1 : (da == sysModules) = false) (lo2 : (oa == sysModules) = false) (o1 : @LT.lt Nat _ dx c) (o2 : @LT.lt Nat _ c da) (o3 : @LT.lt Nat _ da oa) (hz1 : D.length ≤ 40) (hz2 : O.length ≤ 40)
include B F XB TB DD hk Ns Nr hoff hd ho lo1 lo2 o1 o2 o3 hz1 hz2
theorem c_setfull {k0 : Int} {x0 : Value} {O' : List (Int × Value)} (hO : O = (k0, x0) :: O') (hw : valueAt D k0 = some v) (hv : valueAt D key = none) (hx : valueAt (without O k0) key = none) (hp1 : 1 ≤ p) (hp2 : p ≤ 20) (hn0 : 0 ≤ n) (hn1 : n = p) (hdp : dp + 25 < recursionLimit) (hun : un + 250 < cLine)
    (hret : ∀ h' tk' g' od' oo' t2', KtsTurn (outer.filterMap (·.frame)) h₀ g' → Fr g' L h' m → News g' L h' (cL c dx da oa (dictOf (cEs w.params da oa (n - 1 + 1) p t0 t1 t2' t3 t4 t5) 4) od' oo' ++ rest) → Below A₀ base outer g' → KtsDicts (outer.filterMap (·.frame)) g' → od'.IsDictOf (intKind PW w) (stored (without D k0) key val) → oo'.IsDictOf (intKind PW w) (stored (without O k0) key .none) → Q .none { s with heap := h', toks := tk' }) :
    wpAny (model PW w) (ktrTop dp un gd cn cs L a ccd cl outer) (call (.ref 865) [.ref c, .int key tk, val]) Q E s := by
  have Xs := Frag.In.keeps (Frag.In.keeps XB B.stays) F.keep
  refine wpAny_call ?_
  refine enterT (i := 32) (j := some 2) (binds := [(Str.ofString "self", .ref c), (Str.ofString "key", .int key tk), (Str.ofString "value", val), (Str.ofString "cache_setitem", .ref 735)]) (by rfl) B F Ns Nr (fun q hq r hr => hoff q hq r.1 (List.mem_map_of_mem hr)) XB TB DD rfl rfl hk (by k_is) (by k_is) (by ktr_room) (by first | exact BindsTo.of_eq rfl | exact binds_K Xs rfl (by k_is) rfl rfl rfl) (locs rfl) ?_ rfl rfl rfl (by decide)
  intro g' L' h' FG' F' N' B' X' T' D'
  (try dsimp only); (try k_lift B')
  k_steps
  all_goals (first | exact hret _ _ _ _ _ _ (by assumption) (by assumption) (n_app (by assumption) (fun _ h => h) (by assumption)) (by assumption) (by assumption) (by first | assumption | exact rfl | omega) (by first | assumption | exact rfl | omega) | (refine hret _ _ _ _ _ _ (by assumption) (by assumption) (n_app (by assumption) ?_ (by assumption)) (by assumption) (by assumption) (by first | assumption | exact rfl | omega) (by first | assumption | exact rfl | omega); kcj_all) | w_report)
end
end
-- part W10
section
local macro_rules | `(tactic| walk_at "call ref") => `(tactic| (k_here; (try dsimp only [List.nil_append, List.cons_append]); (with_reducible show wpAny _ _ (call (Value.ref _) [Value.ref _, Value.int _ _]) _ _ _); k_dflt (refine' c_contains (rest := []) ?zqB ?zqF ?zqX ?zqT ?zqhk ?zqNs ?zqNr ?zqhoff ?zqhd ?zqho ?zql1 ?zql2 ?zqo1 ?zqo2 ?zqo3 ?zqz1 ?zqz2  ?zqdp ?zqun ?_; (case zqB => k_asm); (case zqF => k_asm); (case zqX => k_asm); (case zqT => k_asm); (case zqhk => first | rfl | assumption); (case zqNs => first | k_asm | exact n_sub (by assumption) (by kcj_all)); (case zqNr => exact News.nil); (case zqhoff => intro _ h; cases h); (case zqhd => assumption); (case zqho => assumption); (case zql1 => assumption); (case zql2 => assumption); (case zqo1 => first | assumption | omega); (case zqo2 => first | assumption | omega); (case zqo3 => first | assumption | omega); (case zqz1 => first | omega | exact Nat.le_trans stored_len (by omega) | exact Nat.le_trans without_len (by omega) | exact Nat.le_trans stored_len (Nat.succ_le_succ (Nat.le_trans without_len (by omega)))); (case zqz2 => first | omega | exact Nat.le_trans stored_len (by omega) | exact Nat.le_trans without_len (by omega)); (case zqdp => ktr_room); (case zqun => ktr_units)); intro h9 tk9 F9 N9; (try simp only [List.append_nil, List.cons_append, List.nil_append] at N9); (try dsimp only); (try k_fold)))
local macro_rules | `(tactic| walk_at "call ref") => `(tactic| (k_here; (try dsimp only [List.nil_append, List.cons_append]); (with_reducible show wpAny _ _ (call (Value.ref _) [Value.ref _, Value.int _ _]) _ _ _); k_dflt (refine' c_get (rest := []) ?zqB ?zqF ?zqX ?zqT ?zqhk ?zqNs ?zqNr ?zqhoff ?zqhd ?zqho ?zql1 ?zql2 ?zqo1 ?zqo2 ?zqo3 ?zqz1 ?zqz2 ?zqhv ?zqhx ?zqdp ?zqun ?_; (case zqB => k_asm); (case zqF => k_asm); (case zqX => k_asm); (case zqT => k_asm); (case zqhk => first | rfl | assumption); (case zqNs => first | k_asm | exact n_sub (by assumption) (by kcj_all)); (case zqNr => exact News.nil); (case zqhoff => intro _ h; cases h); (case zqhd => assumption); (case zqho => assumption); (case zql1 => assumption); (case zql2 => assumption); (case zqo1 => first | assumption | omega); (case zqo2 => first | assumption | omega); (case zqo3 => first | assumption | omega); (case zqz1 => first | omega | exact Nat.le_trans stored_len (by omega) | exact Nat.le_trans without_len (by omega) | exact Nat.le_trans stored_len (Nat.succ_le_succ (Nat.le_trans without_len (by omega)))); (case zqz2 => first | omega | exact Nat.le_trans stored_len (by omega) | exact Nat.le_trans without_len (by omega)); (case zqhv => first | assumption | exact rfl | omega); (case zqhx => first | assumption | exact rfl | omega); (case zqdp => ktr_room); (case zqun => ktr_units)); intro h9 tk9 oo9 F9 N9 J9; (try simp only [List.append_nil, List.cons_append, List.nil_append] at N9); (try dsimp only); (try k_fold)))
local macro_rules | `(tactic| walk_at "call ref") => `(tactic| (k_here; (try dsimp only [List.nil_append, List.cons_append]); (with_reducible show wpAny _ _ (call (Value.ref _) [Value.ref _, Value.int _ _]) _ _ _); k_dflt (refine' c_del (rest := []) ?zqB ?zqF ?zqX ?zqT ?zqhk ?zqNs ?zqNr ?zqhoff ?zqhd ?zqho ?zql1 ?zql2 ?zqo1 ?zqo2 ?zqo3 ?zqz1 ?zqz2 ?zqhv ?zqhw ?zqhn0 ?zqhn1 ?zqdp ?zqun ?_; (case zqB => k_asm); (case zqF => k_asm); (case zqX => k_asm); (case zqT => k_asm); (case zqhk => first | rfl | assumption); (case zqNs => first | k_asm | exact n_sub (by assumption) (by kcj_all)); (case zqNr => exact News.nil); (case zqhoff => intro _ h; cases h); (case zqhd => assumption); (case zqho => assumption); (case zql1 => assumption); (case zql2 => assumption); (case zqo1 => first | assumption | omega); (case zqo2 => first | assumption | omega); (case zqo3 => first | assumption | omega); (case zqz1 => first | omega | exact Nat.le_trans stored_len (by omega) | exact Nat.le_trans without_len (by omega) | exact Nat.le_trans stored_len (Nat.succ_le_succ (Nat.le_trans without_len (by omega)))); (case zqz2 => first | omega | exact Nat.le_trans stored_len (by omega) | exact Nat.le_trans without_len (by omega)); (case zqhv => first | assumption | exact rfl | omega); (case zqhw => first | assumption | exact rfl | omega); (case zqhn0 => first | assumption | exact rfl | omega); (case zqhn1 => first | assumption | exact rfl | omega); (case zqdp => ktr_room); (case zqun => ktr_units)); intro h9 tk9 od9 oo9 t9 F9 N9 I9 J9; (try simp only [List.append_nil, List.cons_append, List.nil_append] at N9); (try dsimp only); (try k_fold)))
theorem isSome_stored {O : List (Int × Value)} {key : Int} {x : Value} : (valueAt (stored O key x) key).isSome = true := by
  unfold valueAt stored
  rw [Option.isSome_map, List.find?_isSome]
  split
  · rename_i h
    obtain ⟨kv, hm, hk⟩ := List.any_eq_true.mp h
    exact ⟨(kv.1, x), List.mem_map.mpr ⟨kv, hm, by rw [if_pos (of_decide_eq_true hk)]⟩, hk⟩
  · exact ⟨(key, x), List.mem_append_right _ (List.mem_singleton.mpr rfl), by simp⟩
section
variable {w : World} {mean : ExcName → Option Value} {mg mb : Str → Option Value} {dp un : Nat} {gd : Option (List Code)} {cn : Str} {cs : Scope} {a : Addr} {ccd : Value} {cl : List (Str × Addr)} {outer : List Env} {A₀ : Around} {base h₀ : Heap} {L : Addr} {m : Str → Option Value} {s : Shared} {Q E : Value → Shared → Prop}
variable {c dx da oa : Addr} {od oo : Obj} {n p : Int} {t0 t1 t2 t3 t4 t5 : Tok} {nn : Nat} {rest : List (Addr × Obj)} {D O : List (Int × Value)} {key : Int} {tk : Tok} {v x dflt : Value}
variable (B : Below A₀ base outer h₀) (F : Fr h₀ L s.heap m) (X : (KF w.params).In h₀) (T : Top qv (looseW qv lo) mean mg mb h₀) (hk : cs.kind = .function)
  (Ns : News h₀ L s.heap (cL c dx da oa (dictOf (cEs w.params da oa n p t0 t1 t2 t3 t4 t5) 4) od oo)) (Nr : News h₀ L s.heap rest) (hoff : ∀ q ∈ rest, ∀ r ∈ [c, dx, da, oa], q.1 ≠ r)
  (hd : od.IsDictOf (intKind PW w) D) (ho : oo.IsDictOf (intKind PW w) O) (lo1 : (da == sysModules) = false) (lo2 : (oa == sysModules) = false) (o1 : @LT.lt Nat _ dx c) (o2 : @LT.lt Nat _ c da) (o3 : @LT.lt Nat _ da oa) (hz1 : D.length ≤ 40) (hz2 : O.length ≤ 40)
include B F X T hk Ns Nr hoff hd ho lo1 lo2 o1 o2 o3 hz1 hz2
theorem c_popin (hv : valueAt D key = some v) (hx : valueAt O key = some x) (hn0 : 0 ≤ n) (hn1 : n ≤ 100) (hdp : dp + 20 < recursionLimit) (hun : un + 200 < cLine)
    (hret : ∀ h' tk' od' oo' t2', Fr h₀ L h' m → News h₀ L h' (cL c dx da oa (dictOf (cEs w.params da oa (n - 1) p t0 t1 t2' t3 t4 t5) 4) od' oo' ++ rest) → od'.IsDictOf (intKind PW w) (without D key) → oo'.IsDictOf (intKind PW w) (without (stored (without O key) key x) key) → Q v { s with heap := h', toks := tk' }) :
    wpAny (model PW w) (ktrTop dp un gd cn cs L a ccd cl outer) (call (.ref 786) [.ref c, .int key tk, dflt]) Q E s := by
  refine wpAny_call ?_
  refine enterS (i := 31) (j := some 12) (binds := [(Str.ofString "self", .ref c), (Str.ofString "key", .int key tk), (Str.ofString "default", dflt)]) (by rfl) B F X Ns Nr (fun q hq r hr => hoff q hq r.1 (List.mem_map_of_mem hr)) T rfl rfl hk (by k_is) (by k_is) (by ktr_room) (by first | exact BindsTo.of_eq rfl | exact binds_K (by k_in) rfl (by k_is) rfl rfl rfl) (locs rfl) ?_ rfl rfl rfl (by decide)
  intro g' L' h' FG' F' N' B' X' T'
  (try dsimp only); (try k_lift B'); (try k_fold)
  have hv1 : (valueAt D key).isSome = true := by rw [hv]; rfl
  have hw1 : (valueAt (stored (without O key) key x) key).isSome = true := isSome_stored
  k_steps
  all_goals (first | exact hret _ _ _ _ _ (by assumption) (n_app (by assumption) (fun _ h => h) (by assumption)) (by first | assumption | exact rfl | omega) (by first | assumption | exact rfl | omega) | (refine hret _ _ _ _ _ (by assumption) (n_app (by assumption) ?_ (by assumption)) (by first | assumption | exact rfl | omega) (by first | assumption | exact rfl | omega); kcj_all) | w_report)
theorem c_popin1 (hv : valueAt D key = some v) (hx : valueAt O key = some x) (hn0 : 0 ≤ n) (hn1 : n ≤ 100) (hdp : dp + 20 < recursionLimit) (hun : un + 200 < cLine)
    (hret : ∀ h' tk' od' oo' t2', Fr h₀ L h' m → News h₀ L h' (cL c dx da oa (dictOf (cEs w.params da oa (n - 1) p t0 t1 t2' t3 t4 t5) 4) od' oo' ++ rest) → od'.IsDictOf (intKind PW w) (without D key) → oo'.IsDictOf (intKind PW w) (without (stored (without O key) key x) key) → Q v { s with heap := h', toks := tk' }) :
    wpAny (model PW w) (ktrTop dp un gd cn cs L a ccd cl outer) (call (.ref 786) [.ref c, .int key tk]) Q E s := by
  refine wpAny_call ?_
  refine enterS (i := 31) (j := some 12) (binds := [(Str.ofString "self", .ref c), (Str.ofString "key", .int key tk), (Str.ofString "default", .ref 706)]) (by rfl) B F X Ns Nr (fun q hq r hr => hoff q hq r.1 (List.mem_map_of_mem hr)) T rfl rfl hk (by k_is) (by k_is) (by ktr_room) (by first | exact BindsTo.of_eq rfl | exact binds_K (by k_in) rfl (by k_is) rfl rfl rfl) (locs rfl) ?_ rfl rfl rfl (by decide)
  intro g' L' h' FG' F' N' B' X' T'
  (try dsimp only); (try k_lift B'); (try k_fold)
  have hv1 : (valueAt D key).isSome = true := by rw [hv]; rfl
  have hw1 : (valueAt (stored (without O key) key x) key).isSome = true := isSome_stored
  k_steps
  all_goals (first | exact hret _ _ _ _ _ (by assumption) (n_app (by assumption) (fun _ h => h) (by assumption)) (by first | assumption | exact rfl | omega) (by first | assumption | exact rfl | omega) | (refine hret _ _ _ _ _ (by assumption) (n_app (by assumption) ?_ (by assumption)) (by first | assumption | exact rfl | omega) (by first | assumption | exact rfl | omega); kcj_all) | w_report)
theorem c_popout (hv : valueAt D key = none) (hdp : dp + 20 < recursionLimit) (hun : un + 200 < cLine)
    (hret : ∀ h' tk', Fr h₀ L h' m → News h₀ L h' (cL c dx da oa (dictOf (cEs w.params da oa n p t0 t1 t2 t3 t4 t5) 4) od oo ++ rest) → Q .none { s with heap := h', toks := tk' }) :
    wpAny (model PW w) (ktrTop dp un gd cn cs L a ccd cl outer) (call (.ref 786) [.ref c, .int key tk, .none]) Q E s := by
  refine wpAny_call ?_
  refine enterS (i := 31) (j := some 12) (binds := [(Str.ofString "self", .ref c), (Str.ofString "key", .int key tk), (Str.ofString "default", .none)]) (by rfl) B F X Ns Nr (fun q hq r hr => hoff q hq r.1 (List.mem_map_of_mem hr)) T rfl rfl hk (by k_is) (by k_is) (by ktr_room) (by first | exact BindsTo.of_eq rfl | exact binds_K (by k_in) rfl (by k_is) rfl rfl rfl) (locs rfl) ?_ rfl rfl rfl (by decide)
  intro g' L' h' FG' F' N' B' X' T'
  (try dsimp only); (try k_lift B'); (try k_fold)
  k_steps
  all_goals (first | exact hret _ _ (by assumption) (n_app (by assumption) (fun _ h => h) (by assumption))  | (refine hret _ _ (by assumption) (n_app (by assumption) ?_ (by assumption)) ; kcj_all) | w_report)
theorem c_popoutS {sx : Str} {ts : Tok} (hv : valueAt D key = none) (hdp : dp + 20 < recursionLimit) (hun : un + 200 < cLine)
    (hret : ∀ h' tk', Fr h₀ L h' m → News h₀ L h' (cL c dx da oa (dictOf (cEs w.params da oa n p t0 t1 t2 t3 t4 t5) 4) od oo ++ rest) → Q (.str sx ts) { s with heap := h', toks := tk' }) :
    wpAny (model PW w) (ktrTop dp un gd cn cs L a ccd cl outer) (call (.ref 786) [.ref c, .int key tk, .str sx ts]) Q E s := by
  refine wpAny_call ?_
  refine enterS (i := 31) (j := some 12) (binds := [(Str.ofString "self", .ref c), (Str.ofString "key", .int key tk), (Str.ofString "default", .str sx ts)]) (by rfl) B F X Ns Nr (fun q hq r hr => hoff q hq r.1 (List.mem_map_of_mem hr)) T rfl rfl hk (by k_is) (by k_is) (by ktr_room) (by first | exact BindsTo.of_eq rfl | exact binds_K (by k_in) rfl (by k_is) rfl rfl rfl) (locs rfl) ?_ rfl rfl rfl (by decide)
  intro g' L' h' FG' F' N' B' X' T'
  (try dsimp only); (try k_lift B'); (try k_fold)
  k_steps
  all_goals (first | exact hret _ _ (by assumption) (n_app (by assumption) (fun _ h => h) (by assumption))  | (refine hret _ _ (by assumption) (n_app (by assumption) ?_ (by assumption)) ; kcj_all) | w_report)
end
end
-- part W11
section
section
variable {prog : Program} {w : World} {A : Around} {E : Value → Shared → Prop} {s : Shared} {K : Frag} {x C f L : Addr} {ox : Obj} {name : Str} {expr : Bool} {h₀ : Heap} {m : Str → Option Value} {news : List (Addr × Obj)} {es : List DictEntry} {n : Nat} {Q : Value → Shared → Prop} {g : Value} {r : List Value}
theorem x_getStatic (F : Fr h₀ L s.heap m) (X₀ : K.In h₀) (I : InstAt s.heap x ox C (some (dictOf es n))) (hg : plainGet K C name = true) (hh : hasDictIn K C = true) (ha : findIn K (.ref C) name = some (some (.ref f)))
    (hgf : specialIn K (.ref f) "__get__" = some (some (.builtin "staticmethod.__get__"))) (ht : takesIn K (.ref f) = some false) (hc : copiedNames.contains name = false) (hl : getL name es = some none) (hp : recIn K f "staticmethod" = some (g :: r)) (hv : handedIn g = true)
    (h : Q g { s with toks := s.toks + 1 }) : wpAny (model prog w) A (getAttr (.ref x) name expr) Q E s :=
  get_bind (X₀.keeps F.keep) I (plainGet_of hg).1 (findObj_fn hh ha hgf ht hc (by show lookIn name (dictOf es n) = _; rw [lookIn_dict, hl])) (plainGet_of hg).2
    (wpAny_call (sm_get (s := { s with toks := s.toks + 1 }) (X₀.keeps F.keep) hp (handed_on hv h)))
end
local macro_rules | `(tactic| walk_at "getAttr ref") => `(tactic| (k_here; k_dflt (refine' x_getStatic ?zqF ?zqX ?zqI ?zqg ?zqh ?zqa ?zqgf ?zqt ?zqc ?zql ?zqp ?zqv ?_; (case zqF => k_asm); (case zqX => k_asm); (case zqI => k_inst); (case zqg => k_is); (case zqh => k_is); (case zqa => k_is); (case zqgf => k_is); (case zqt => k_is); (case zqc => decide +kernel); (case zql => k_get); (case zqp => k_is); (case zqv => k_handed); k_whole)))
local macro_rules | `(tactic| walk_at "compareOp IsNot ref ref") => `(tactic| (k_here; refine isnot_ref_same ?_))
section
variable {w : World} {mean : ExcName → Option Value} {mg mb : Str → Option Value} {dp un : Nat} {gd : Option (List Code)} {cn : Str} {cs : Scope} {a : Addr} {ccd : Value} {cl : List (Str × Addr)} {outer : List Env} {A₀ : Around} {base h₀ : Heap} {L : Addr} {m : Str → Option Value} {s : Shared} {Q E : Value → Shared → Prop}
variable {p : Int} {tp : Tok} {rest : List (Addr × Obj)}
theorem n_perm4 {h : Heap} {x1 x2 x3 x4 : Addr × Obj} (N : News h₀ L h [x1, x2, x3, x4]) : News h₀ L h [x3, x4, x2, x1] := n_sub N fun p hp => by
  simp only [List.mem_cons, List.not_mem_nil, or_false] at hp ⊢
  rcases hp with h | h | h | h
  · exact .inr (.inr (.inl h))
  · exact .inr (.inr (.inr h))
  · exact .inr (.inl h)
  · exact .inl h
theorem c_new (B : Below A₀ base outer h₀) (F : Fr h₀ L s.heap m) (X : (KF w.params).In h₀) (T : Top qv (looseW qv lo) mean mg mb h₀) (hk : cs.kind = .function) (Nr : News h₀ L s.heap rest) (hp1 : 1 ≤ p) (hp2 : p ≤ 20) (hdp : dp + 10 < recursionLimit) (hun : un + 100 < cLine)
    (hret : ∀ h' tk' c dx da oa od oo t0 t1 t2 t3 t5, Fr h₀ L h' m → News h₀ L h' (cL c dx da oa (dictOf (cEs w.params da oa 0 p t0 t1 t2 t3 tp t5) 4) od oo ++ rest) → (∀ q ∈ rest, q.1 < dx) → @LT.lt Nat _ dx c → @LT.lt Nat _ c da → @LT.lt Nat _ da oa →
      od.IsDictOf (intKind PW w) ([] : List (Int × Value)) → oo.IsDictOf (intKind PW w) ([] : List (Int × Value)) → (da == sysModules) = false → (oa == sysModules) = false → Q (.ref c) { s with heap := h', toks := tk' }) :
    wpAny (model PW w) (ktrTop dp un gd cn cs L a ccd cl outer) (call (.ref 897) [.int p tp]) Q E s := by
  refine' call_cls F X Nr ?m ?i ?f ?_
  case m => k_is
  case i => k_is
  case f => k_is
  intro c dx h' F' N' l1 l2
  have o1 : @LT.lt Nat _ dx c := l2
  refine enterS (i := 32) (j := some 0) (small := [(c, instObj 897 dx), (dx, dictOf [] 0)]) (rest := rest) (binds := [(Str.ofString "self", .ref c), (Str.ofString "maxsize", .int p tp), (Str.ofString "getsizeof", .none)]) (by rfl) B F' X (n_sub N' (by intro p hp; simp at hp ⊢; rcases hp with h | h <;> simp [h])) (n_sub N' (fun p hp => List.mem_cons_of_mem _ (List.mem_cons_of_mem _ hp))) (fun q hq r hr => by
    have z : @LT.lt Nat _ q.1 dx := l1 q hq
    simp only [List.mem_cons, List.not_mem_nil, or_false] at hr
    rcases hr with rfl | rfl
    · exact Nat.ne_of_lt (Nat.lt_trans z o1)
    · exact Nat.ne_of_lt z) T rfl rfl hk (by k_is) (by k_is) (by ktr_room) (by first | exact BindsTo.of_eq rfl | exact binds_K (by k_in) rfl (by k_is) rfl rfl rfl) (locs rfl) ?_ rfl rfl rfl (by decide)
  intro g' L' h' FG' F' N' B' X' T'
  (try dsimp only); (try k_lift B'); (try k_fold)
  k_steps
  rename_i kF kN _ _ kR
  exact hret _ _ c dx _ _ _ _ _ _ _ _ _ kF (n_app (n_perm4 kN) (fun _ h => h) kR) l1 o1 (by omega) (by omega) (by assumption) (by assumption) (by assumption) (by assumption)
end
end
-- part W12
section
section
variable {w : World} {mean : ExcName → Option Value} {mg mb : Str → Option Value} {dp un : Nat} {gd : Option (List Code)} {cn : Str} {cs : Scope} {a : Addr} {ccd : Value} {cl : List (Str × Addr)} {outer : List Env} {A₀ : Around} {base h₀ : Heap} {L : Addr} {m : Str → Option Value} {s : Shared} {Q E : Value → Shared → Prop}
variable {c dx da oa : Addr} {od oo : Obj} {pn : Nat} {A : List (Int × Int)} {t0 t1 t2 t3 t4 t5 : Tok} {nn : Nat} {rest : List (Addr × Obj)} {D O : List (Int × Value)} {key : Int} {tk : Tok} {v : Int} {tv : Tok} {x : Value}
variable (B : Below A₀ base outer h₀) (F : Fr h₀ L s.heap m) (X : (KF w.params).In h₀) (T : Top qv (looseW qv lo) mean mg mb h₀) (hk : cs.kind = .function)
  (NN : News h₀ L s.heap (cL c dx da oa (dictOf (cEs w.params da oa (A.length : Int) (pn : Int) t0 t1 t2 t3 t4 t5) 4) od oo) ∧ News h₀ L s.heap rest) (hoff : ∀ q ∈ rest, ∀ r ∈ [c, dx, da, oa], q.1 ≠ r)
  (hd : od.IsDictOf (intKind PW w) D) (ho : oo.IsDictOf (intKind PW w) O) (lo1 : (da == sysModules) = false) (lo2 : (oa == sysModules) = false) (o1 : @LT.lt Nat _ dx c) (o2 : @LT.lt Nat _ c da) (o3 : @LT.lt Nat _ da oa) (R : Rel A D O) (hp1 : 1 ≤ pn) (hp2 : pn ≤ 20) (hle : A.length ≤ pn)
include B F X T hk NN hoff hd ho lo1 lo2 o1 o2 o3 R hp1 hp2 hle
theorem r_contains  (hdp : dp + 5 < recursionLimit) (hun : un + 50 < cLine)
    (hret : ∀ h' tk', Fr h₀ L h' m → News h₀ L h' (cL c dx da oa (dictOf (cEs w.params da oa (A.length : Int) (pn : Int) t0 t1 t2 t3 t4 t5) 4) od oo ++ rest) → Q (.bool (decide (key ∈ ks A))) { s with heap := h', toks := tk' }) :
    wpAny (model PW w) (ktrTop dp un gd cn cs L a ccd cl outer) (call (.ref 749) [.ref c, .int key tk]) Q E s := by
  exact c_contains B F X T hk NN.1 NN.2 hoff hd ho lo1 lo2 o1 o2 o3 (by have := R.len; omega) (by have := R.lenO; omega) hdp hun fun h' tk' F' N' => R.isSome ▸ hret h' tk' F' N'
theorem r_has (hin : key ∈ ks A) (hdp : dp + 5 < recursionLimit) (hun : un + 50 < cLine)
    (hret : ∀ h' tk', Fr h₀ L h' m → News h₀ L h' (cL c dx da oa (dictOf (cEs w.params da oa (A.length : Int) (pn : Int) t0 t1 t2 t3 t4 t5) 4) od oo ++ rest) → Q (.bool true) { s with heap := h', toks := tk' }) :
    wpAny (model PW w) (ktrTop dp un gd cn cs L a ccd cl outer) (call (.ref 749) [.ref c, .int key tk]) Q E s := by
  exact c_contains B F X T hk NN.1 NN.2 hoff hd ho lo1 lo2 o1 o2 o3 (by have := R.len; omega) (by have := R.lenO; omega) hdp hun fun h' tk' F' N' => by rw [R.isSome, decide_eq_true hin]; exact hret h' tk' F' N'
theorem r_hasnt (hout : key ∉ ks A) (hdp : dp + 5 < recursionLimit) (hun : un + 50 < cLine)
    (hret : ∀ h' tk', Fr h₀ L h' m → News h₀ L h' (cL c dx da oa (dictOf (cEs w.params da oa (A.length : Int) (pn : Int) t0 t1 t2 t3 t4 t5) 4) od oo ++ rest) → Q (.bool false) { s with heap := h', toks := tk' }) :
    wpAny (model PW w) (ktrTop dp un gd cn cs L a ccd cl outer) (call (.ref 749) [.ref c, .int key tk]) Q E s := by
  exact c_contains B F X T hk NN.1 NN.2 hoff hd ho lo1 lo2 o1 o2 o3 (by have := R.len; omega) (by have := R.lenO; omega) hdp hun fun h' tk' F' N' => by rw [R.isSome, decide_eq_false hout]; exact hret h' tk' F' N'
theorem r_len  (hdp : dp + 5 < recursionLimit) (hun : un + 50 < cLine)
    (hret : ∀ h' tk' (t' : Tok), Fr h₀ L h' m → News h₀ L h' (cL c dx da oa (dictOf (cEs w.params da oa (A.length : Int) (pn : Int) t0 t1 t2 t3 t4 t5) 4) od oo ++ rest) → Q (.int A.length t') { s with heap := h', toks := tk' }) :
    wpAny (model PW w) (ktrTop dp un gd cn cs L a ccd cl outer) (call (.ref 770) [.ref c]) Q E s := by
  exact c_len B F X T hk NN.1 NN.2 hoff hd ho lo1 lo2 o1 o2 o3 (by have := R.len; omega) (by have := R.lenO; omega) hdp hun fun h' tk' t' F' N' => R.len ▸ hret h' tk' t' F' N'
theorem r_get (hin : (key, v) ∈ A) (hdp : dp + 10 < recursionLimit) (hun : un + 100 < cLine)
    (hret : ∀ h' tk' tv oo' O', Fr h₀ L h' m → News h₀ L h' (cL c dx da oa (dictOf (cEs w.params da oa ((outA A key ++ [(key, v)]).length : Int) (pn : Int) t0 t1 t2 t3 t4 t5) 4) od oo' ++ rest) → oo'.IsDictOf (intKind PW w) O' → Rel (outA A key ++ [(key, v)]) D O' → (outA A key ++ [(key, v)]).length ≤ pn → Q (.int v tv) { s with heap := h', toks := tk' }) :
    wpAny (model PW w) (ktrTop dp un gd cn cs L a ccd cl outer) (call (.ref 857) [.ref c, .int key tk]) Q E s := by
  obtain ⟨t, hv⟩ := R.at_ hin
  obtain ⟨x, hx⟩ := R.atO (List.mem_map.mpr ⟨_, hin, rfl⟩)
  exact c_get B F X T hk NN.1 NN.2 hoff hd ho lo1 lo2 o1 o2 o3 (by have := R.len; omega) (by have := R.lenO; omega) hv hx hdp hun fun h' tk' oo' F' N' I => hret h' tk' t oo' _ F' (by rw [got_len R.nd hin]; exact N') I (R.got hin x) (by have := got_len (v' := v) R.nd hin; omega)
theorem r_popin (hin : (key, v) ∈ A) (hdp : dp + 20 < recursionLimit) (hun : un + 200 < cLine)
    (hret : ∀ h' tk' tv od' oo' t2' D' O', Fr h₀ L h' m → News h₀ L h' (cL c dx da oa (dictOf (cEs w.params da oa ((outA A key).length : Int) (pn : Int) t0 t1 t2' t3 t4 t5) 4) od' oo' ++ rest) → od'.IsDictOf (intKind PW w) D' → oo'.IsDictOf (intKind PW w) O' → Rel (outA A key) D' O' → (outA A key).length ≤ pn → Q (.int v tv) { s with heap := h', toks := tk' }) :
    wpAny (model PW w) (ktrTop dp un gd cn cs L a ccd cl outer) (call (.ref 786) [.ref c, .int key tk, x]) Q E s := by
  obtain ⟨t, hv⟩ := R.at_ hin
  obtain ⟨x', hx⟩ := R.atO (List.mem_map.mpr ⟨_, hin, rfl⟩)
  exact c_popin B F X T hk NN.1 NN.2 hoff hd ho lo1 lo2 o1 o2 o3 (by have := R.len; omega) (by have := R.lenO; omega) hv hx (by omega) (by omega) hdp hun fun h' tk' od' oo' t2' F' N' I J => hret h' tk' t od' oo' t2' _ _ F' (by rw [out_len R.nd (List.mem_map.mpr ⟨_, hin, rfl⟩)]; exact N') I J (R.took hin x') (Nat.le_trans (List.length_filter_le _ _) hle)
theorem r_popin1 (hin : (key, v) ∈ A) (hdp : dp + 20 < recursionLimit) (hun : un + 200 < cLine)
    (hret : ∀ h' tk' tv od' oo' t2' D' O', Fr h₀ L h' m → News h₀ L h' (cL c dx da oa (dictOf (cEs w.params da oa ((outA A key).length : Int) (pn : Int) t0 t1 t2' t3 t4 t5) 4) od' oo' ++ rest) → od'.IsDictOf (intKind PW w) D' → oo'.IsDictOf (intKind PW w) O' → Rel (outA A key) D' O' → (outA A key).length ≤ pn → Q (.int v tv) { s with heap := h', toks := tk' }) :
    wpAny (model PW w) (ktrTop dp un gd cn cs L a ccd cl outer) (call (.ref 786) [.ref c, .int key tk]) Q E s := by
  obtain ⟨t, hv⟩ := R.at_ hin
  obtain ⟨x', hx⟩ := R.atO (List.mem_map.mpr ⟨_, hin, rfl⟩)
  exact c_popin1 B F X T hk NN.1 NN.2 hoff hd ho lo1 lo2 o1 o2 o3 (by have := R.len; omega) (by have := R.lenO; omega) hv hx (by omega) (by omega) hdp hun fun h' tk' od' oo' t2' F' N' I J => hret h' tk' t od' oo' t2' _ _ F' (by rw [out_len R.nd (List.mem_map.mpr ⟨_, hin, rfl⟩)]; exact N') I J (R.took hin x') (Nat.le_trans (List.length_filter_le _ _) hle)
theorem r_popout (hout : key ∉ ks A) (hdp : dp + 20 < recursionLimit) (hun : un + 200 < cLine)
    (hret : ∀ h' tk', Fr h₀ L h' m → News h₀ L h' (cL c dx da oa (dictOf (cEs w.params da oa (A.length : Int) (pn : Int) t0 t1 t2 t3 t4 t5) 4) od oo ++ rest) → Q .none { s with heap := h', toks := tk' }) :
    wpAny (model PW w) (ktrTop dp un gd cn cs L a ccd cl outer) (call (.ref 786) [.ref c, .int key tk, .none]) Q E s := by
  exact c_popout B F X T hk NN.1 NN.2 hoff hd ho lo1 lo2 o1 o2 o3 (by have := R.len; omega) (by have := R.lenO; omega) (R.off hout) hdp hun hret
theorem r_popoutS {sx : Str} {ts : Tok} (hout : key ∉ ks A) (hdp : dp + 20 < recursionLimit) (hun : un + 200 < cLine)
    (hret : ∀ h' tk', Fr h₀ L h' m → News h₀ L h' (cL c dx da oa (dictOf (cEs w.params da oa (A.length : Int) (pn : Int) t0 t1 t2 t3 t4 t5) 4) od oo ++ rest) → Q (.str sx ts) { s with heap := h', toks := tk' }) :
    wpAny (model PW w) (ktrTop dp un gd cn cs L a ccd cl outer) (call (.ref 786) [.ref c, .int key tk, .str sx ts]) Q E s := by
  exact c_popoutS B F X T hk NN.1 NN.2 hoff hd ho lo1 lo2 o1 o2 o3 (by have := R.len; omega) (by have := R.lenO; omega) (R.off hout) hdp hun hret
theorem r_clear  (hdp : dp + 10 < recursionLimit) (hun : un + 100 < cLine)
    (hret : ∀ h' tk' od' oo' t2', Fr h₀ L h' m → News h₀ L h' (cL c dx da oa (dictOf (cEs w.params da oa (([] : List (Int × Int)).length : Int) (pn : Int) t0 t1 t2' t3 t4 t5) 4) od' oo' ++ rest) → od'.IsDictOf (intKind PW w) [] → oo'.IsDictOf (intKind PW w) [] → Rel [] [] [] → Q .none { s with heap := h', toks := tk' }) :
    wpAny (model PW w) (ktrTop dp un gd cn cs L a ccd cl outer) (call (.ref 887) [.ref c]) Q E s := by
  exact c_clear B F X T hk NN.1 NN.2 hoff hd ho lo1 lo2 o1 o2 o3 (by have := R.len; omega) (by have := R.lenO; omega) hdp hun fun h' tk' od' oo' t2' F' N' I J => hret h' tk' od' oo' t2' F' N' I J Rel.nil
theorem r_popitem {k0 v0 : Int} {A' : List (Int × Int)} (hA : A = (k0, v0) :: A') (hdp : dp + 15 < recursionLimit) (hun : un + 150 < cLine)
    (hret : ∀ h' tk' od' oo' t2' D' O' ta tk0 tv0, Fr h₀ L h' m → News h₀ L h' ((ta, { cls := .type "tuple", data := .seq #[.int k0 tk0, .int v0 tv0] }) :: cL c dx da oa (dictOf (cEs w.params da oa (A'.length : Int) (pn : Int) t0 t1 t2' t3 t4 t5) 4) od' oo' ++ rest) → od'.IsDictOf (intKind PW w) D' → oo'.IsDictOf (intKind PW w) O' → Rel A' D' O' → A'.length ≤ pn → @LT.lt Nat _ oa ta → (∀ q ∈ rest, @Ne Nat q.1 ta) → Q (.ref ta) { s with heap := h', toks := tk' }) :
    wpAny (model PW w) (ktrTop dp un gd cn cs L a ccd cl outer) (call (.ref 880) [.ref c]) Q E s := by
  obtain ⟨t, hv⟩ := R.at_ (k := k0) (v := v0) (by rw [hA]; exact List.mem_cons_self)
  obtain ⟨x0, O', hO⟩ := Rel.head (hA ▸ R)
  have e : ((A'.length : Nat) : Int) = (A.length : Int) - 1 := by rw [hA, List.length_cons]; omega
  exact c_popitem B F X T hk NN.1 NN.2 hoff hd ho lo1 lo2 o1 o2 o3 (by have := R.len; omega) (by have := R.lenO; omega) hO hv (by omega) (by omega) hdp hun fun h' tk' od' oo' t2' ta tk0 F' N' I J V Z => hret h' tk' od' oo' t2' _ _ ta tk0 t F' (by rw [e]; exact N') I J (Rel.pop (hA ▸ R)) (by omega) V Z
end
section
variable {w : World} {mean : ExcName → Option Value} {mg mb : Str → Option Value} {dp un : Nat} {gd : Option (List Code)} {cn : Str} {cs : Scope} {a : Addr} {ccd : Value} {cl : List (Str × Addr)} {outer : List Env} {A₀ : Around} {base h₀ : Heap} {L : Addr} {m : Str → Option Value} {s : Shared} {Q E : Value → Shared → Prop}
variable {c dx da oa : Addr} {od oo : Obj} {pn : Nat} {A : List (Int × Int)} {t0 t1 t2 t3 t4 t5 : Tok} {nn : Nat} {rest : List (Addr × Obj)} {D O : List (Int × Value)} {key : Int} {tk : Tok} {v : Int} {tv : Tok} {x : Value}
variable (B : Below A₀ base outer h₀) (F : Fr h₀ L s.heap m) (XB : (KF w.params).In base) (TB : Top qv (looseW qv lo) mean mg mb base) (DD : KtsDicts (outer.filterMap (·.frame)) h₀) (hk : cs.kind = .function)
  (NN : News h₀ L s.heap (cL c dx da oa (dictOf (cEs w.params da oa (A.length : Int) (pn : Int) t0 t1 t2 t3 t4 t5) 4) od oo) ∧ News h₀ L s.heap rest) (hoff : ∀ q ∈ rest, ∀ r ∈ [c, dx, da, oa], q.1 ≠ r)
  (hd : od.IsDictOf (intKind PW w) D) (ho : oo.IsDictOf (intKind PW w) O) (lo1 : (da == sysModules) = false) (lo2 : (oa == sysModules) = false) (o1 : @LT.lt Nat _ dx c) (o2 : @LT.lt Nat _ c da) (o3 : @LT.lt Nat _ da oa) (R : Rel A D O) (hp1 : 1 ≤ pn) (hp2 : pn ≤ 20) (hle : A.length ≤ pn)
include B F XB TB DD hk NN hoff hd ho lo1 lo2 o1 o2 o3 R hp1 hp2 hle
theorem r_set  (hdp : dp + 25 < recursionLimit) (hun : un + 250 < cLine)
    (hret : ∀ h' tk' g' od' oo' t2' D' O', KtsTurn (outer.filterMap (·.frame)) h₀ g' → Fr g' L h' m → News g' L h' (cL c dx da oa (dictOf (cEs w.params da oa ((setA A key v pn).length : Int) (pn : Int) t0 t1 t2' t3 t4 t5) 4) od' oo' ++ rest) → Below A₀ base outer g' → KtsDicts (outer.filterMap (·.frame)) g' → od'.IsDictOf (intKind PW w) D' → oo'.IsDictOf (intKind PW w) O' → Rel (setA A key v pn) D' O' → (setA A key v pn).length ≤ pn → Q .none { s with heap := h', toks := tk' }) :
    wpAny (model PW w) (ktrTop dp un gd cn cs L a ccd cl outer) (call (.ref 865) [.ref c, .int key tk, .int v tv]) Q E s := by
  by_cases h : key ∈ ks A
  · obtain ⟨⟨k1, v1⟩, hm, e⟩ := List.mem_map.mp h
    have e : k1 = key := e
    subst e
    obtain ⟨t, hv⟩ := R.at_ hm
    obtain ⟨x, hx⟩ := R.atO h
    have eA : setA A k1 v pn = outA A k1 ++ [(k1, v)] := if_pos h
    have el : ((setA A k1 v pn).length : Int) = (A.length : Int) := by
      have := out_len R.nd h
      rw [eA, List.length_append, List.length_singleton]
      omega
    exact c_setin B F (XB.keeps B.stays) (TB.keeps B.stays) hk NN.1 NN.2 hoff hd ho lo1 lo2 o1 o2 o3 (by have := R.len; omega) (by have := R.lenO; omega) hv hx (by omega) (by omega) (by omega) (by omega) fun h' tk' od' oo' F' N' I J =>
      hret h' tk' h₀ od' oo' _ _ _ KtsTurn.refl F' (by rw [el]; exact N') B DD I J (by rw [eA]; exact R.into h v tv x) (setA_len hle hp1)
  · by_cases hr : A.length < pn
    · have eA : setA A key v pn = A ++ [(key, v)] := by unfold setA; rw [if_neg h, if_pos hr]
      have el : ((setA A key v pn).length : Int) = (A.length : Int) + 1 := by rw [eA, List.length_append, List.length_singleton]; omega
      exact c_setroom B F XB TB DD hk NN.1 NN.2 hoff hd ho lo1 lo2 o1 o2 o3 (by have := R.len; omega) (by have := R.lenO; omega) (R.off h) (R.offO h) (by omega) (by omega) (by omega) (by omega) (by omega) (by omega) fun h' tk' g' od' oo' t2' T' F' N' B' D' I J =>
        hret h' tk' g' od' oo' t2' _ _ T' F' (by rw [el]; exact N') B' D' I J (by rw [eA]; exact R.new h v tv .none) (setA_len hle hp1)
    · cases hA : A with
      | nil => rw [hA] at hr; exact absurd (show 0 < pn by omega) hr
      | cons q A' =>
        obtain ⟨k0, v0⟩ := q
        obtain ⟨t, hv⟩ := R.at_ (k := k0) (v := v0) (by rw [hA]; exact List.mem_cons_self)
        obtain ⟨x0, O', hO⟩ := Rel.head (hA ▸ R)
        have R' := Rel.pop (hA ▸ R)
        have h2 : key ∉ ks A' := fun e => h (by rw [hA]; exact List.mem_cons_of_mem _ e)
        have eA : setA A key v pn = A' ++ [(key, v)] := by unfold setA; rw [if_neg h, if_neg hr, hA]; rfl
        have el : ((setA A key v pn).length : Int) = (A.length : Int) - 1 + 1 := by rw [eA, hA, List.length_append, List.length_singleton, List.length_cons]; omega
        exact c_setfull B F XB TB DD hk NN.1 NN.2 hoff hd ho lo1 lo2 o1 o2 o3 (by have := R.len; omega) (by have := R.lenO; omega) hO hv (R.off h) (R'.offO h2) (by omega) (by omega) (by omega) (by omega) (by omega) (by omega) fun h' tk' g' od' oo' t2' T' F' N' B' D' I J =>
          hret h' tk' g' od' oo' t2' _ _ T' F' (by rw [el]; exact N') B' D' I J (by rw [eA]; exact R'.new h2 v tv .none) (setA_len hle hp1)
end
end
-- part W13
section
local macro_rules | `(tactic| walk_at "noteFrame ref") => `(tactic| (k_here; (with_reducible rename Heap.NewExc _ _ _ _ => xX'); k_dflt (refine' noteS xX' ?zqF ?zqN ?zqB ?zqD ?zqk; (case zqF => k_asm); (case zqN => k_asm); (case zqB => k_asm); (case zqD => assumption)); clear xX'; intro h' g' tT' tH'; (have bB' := below_turn (by assumption) tT'); (have xB' := up_in (by assumption) bB'); (have tB' := up_top (by assumption) bB'); (have dB' := KtsDicts.turn (by assumption) tT'); (have ttHH' := TT.HeldNA.held tH')))
local macro_rules | `(tactic| walk_at "LeaveT") => `(tactic| (k_dflt (refine' leaveT_ ?zqF ?zqN ?zqT ?_; (case zqF => k_asm); (case zqN => k_asm); (case zqT => first | assumption | exact KtsTurn.trans (by assumption) (by assumption) | exact KtsTurn.refl); k_whole); intro g9 T9 F9 N9 R9 B9 X9 TT9 D9; (revert N9); intro N9; (try dsimp only)))
theorem n_cut {h₀ h : Heap} {L : Addr} {l₁ l₂ l₃ : List (Addr × Obj)} (N : News h₀ L h (l₁ ++ (l₂ ++ l₃))) : News h₀ L h l₂ ∧ News h₀ L h (l₁ ++ l₃) :=
  ⟨fun p hp => N p (List.mem_append_right _ (List.mem_append_left _ hp)), fun p hp => (List.mem_append.mp hp).elim (fun h => N p (List.mem_append_left _ h)) fun h => N p (List.mem_append_right _ (List.mem_append_right _ h))⟩
theorem n_split0 {h₀ h : Heap} {L : Addr} {x1 x2 x3 x4 : Addr × Obj} {r : List (Addr × Obj)} (N : News h₀ L h (x1 :: x2 :: x3 :: x4 :: r)) : News h₀ L h [x1, x2, x3, x4] ∧ News h₀ L h (r) := n_cut (l₂ := [x1, x2, x3, x4]) (l₃ := r) N (l₁ := [])
theorem n_split1 {h₀ h : Heap} {L : Addr} {a0 x1 x2 x3 x4 : Addr × Obj} {r : List (Addr × Obj)} (N : News h₀ L h (a0 :: x1 :: x2 :: x3 :: x4 :: r)) : News h₀ L h [x1, x2, x3, x4] ∧ News h₀ L h (a0 :: r) := n_cut (l₂ := [x1, x2, x3, x4]) (l₃ := r) N (l₁ := [a0])
theorem n_split2 {h₀ h : Heap} {L : Addr} {a0 a1 x1 x2 x3 x4 : Addr × Obj} {r : List (Addr × Obj)} (N : News h₀ L h (a0 :: a1 :: x1 :: x2 :: x3 :: x4 :: r)) : News h₀ L h [x1, x2, x3, x4] ∧ News h₀ L h (a0 :: a1 :: r) := n_cut (l₂ := [x1, x2, x3, x4]) (l₃ := r) N (l₁ := [a0, a1])
theorem n_split3 {h₀ h : Heap} {L : Addr} {a0 a1 a2 x1 x2 x3 x4 : Addr × Obj} {r : List (Addr × Obj)} (N : News h₀ L h (a0 :: a1 :: a2 :: x1 :: x2 :: x3 :: x4 :: r)) : News h₀ L h [x1, x2, x3, x4] ∧ News h₀ L h (a0 :: a1 :: a2 :: r) := n_cut (l₂ := [x1, x2, x3, x4]) (l₃ := r) N (l₁ := [a0, a1, a2])
theorem n_split4 {h₀ h : Heap} {L : Addr} {a0 a1 a2 a3 x1 x2 x3 x4 : Addr × Obj} {r : List (Addr × Obj)} (N : News h₀ L h (a0 :: a1 :: a2 :: a3 :: x1 :: x2 :: x3 :: x4 :: r)) : News h₀ L h [x1, x2, x3, x4] ∧ News h₀ L h (a0 :: a1 :: a2 :: a3 :: r) := n_cut (l₂ := [x1, x2, x3, x4]) (l₃ := r) N (l₁ := [a0, a1, a2, a3])
theorem n_split5 {h₀ h : Heap} {L : Addr} {a0 a1 a2 a3 a4 x1 x2 x3 x4 : Addr × Obj} {r : List (Addr × Obj)} (N : News h₀ L h (a0 :: a1 :: a2 :: a3 :: a4 :: x1 :: x2 :: x3 :: x4 :: r)) : News h₀ L h [x1, x2, x3, x4] ∧ News h₀ L h (a0 :: a1 :: a2 :: a3 :: a4 :: r) := n_cut (l₂ := [x1, x2, x3, x4]) (l₃ := r) N (l₁ := [a0, a1, a2, a3, a4])
theorem n_split6 {h₀ h : Heap} {L : Addr} {a0 a1 a2 a3 a4 a5 x1 x2 x3 x4 : Addr × Obj} {r : List (Addr × Obj)} (N : News h₀ L h (a0 :: a1 :: a2 :: a3 :: a4 :: a5 :: x1 :: x2 :: x3 :: x4 :: r)) : News h₀ L h [x1, x2, x3, x4] ∧ News h₀ L h (a0 :: a1 :: a2 :: a3 :: a4 :: a5 :: r) := n_cut (l₂ := [x1, x2, x3, x4]) (l₃ := r) N (l₁ := [a0, a1, a2, a3, a4, a5])
theorem n_split7 {h₀ h : Heap} {L : Addr} {a0 a1 a2 a3 a4 a5 a6 x1 x2 x3 x4 : Addr × Obj} {r : List (Addr × Obj)} (N : News h₀ L h (a0 :: a1 :: a2 :: a3 :: a4 :: a5 :: a6 :: x1 :: x2 :: x3 :: x4 :: r)) : News h₀ L h [x1, x2, x3, x4] ∧ News h₀ L h (a0 :: a1 :: a2 :: a3 :: a4 :: a5 :: a6 :: r) := n_cut (l₂ := [x1, x2, x3, x4]) (l₃ := r) N (l₁ := [a0, a1, a2, a3, a4, a5, a6])
theorem n_split8 {h₀ h : Heap} {L : Addr} {a0 a1 a2 a3 a4 a5 a6 a7 x1 x2 x3 x4 : Addr × Obj} {r : List (Addr × Obj)} (N : News h₀ L h (a0 :: a1 :: a2 :: a3 :: a4 :: a5 :: a6 :: a7 :: x1 :: x2 :: x3 :: x4 :: r)) : News h₀ L h [x1, x2, x3, x4] ∧ News h₀ L h (a0 :: a1 :: a2 :: a3 :: a4 :: a5 :: a6 :: a7 :: r) := n_cut (l₂ := [x1, x2, x3, x4]) (l₃ := r) N (l₁ := [a0, a1, a2, a3, a4, a5, a6, a7])
theorem n_split9 {h₀ h : Heap} {L : Addr} {a0 a1 a2 a3 a4 a5 a6 a7 a8 x1 x2 x3 x4 : Addr × Obj} {r : List (Addr × Obj)} (N : News h₀ L h (a0 :: a1 :: a2 :: a3 :: a4 :: a5 :: a6 :: a7 :: a8 :: x1 :: x2 :: x3 :: x4 :: r)) : News h₀ L h [x1, x2, x3, x4] ∧ News h₀ L h (a0 :: a1 :: a2 :: a3 :: a4 :: a5 :: a6 :: a7 :: a8 :: r) := n_cut (l₂ := [x1, x2, x3, x4]) (l₃ := r) N (l₁ := [a0, a1, a2, a3, a4, a5, a6, a7, a8])
theorem n_split10 {h₀ h : Heap} {L : Addr} {a0 a1 a2 a3 a4 a5 a6 a7 a8 a9 x1 x2 x3 x4 : Addr × Obj} {r : List (Addr × Obj)} (N : News h₀ L h (a0 :: a1 :: a2 :: a3 :: a4 :: a5 :: a6 :: a7 :: a8 :: a9 :: x1 :: x2 :: x3 :: x4 :: r)) : News h₀ L h [x1, x2, x3, x4] ∧ News h₀ L h (a0 :: a1 :: a2 :: a3 :: a4 :: a5 :: a6 :: a7 :: a8 :: a9 :: r) := n_cut (l₂ := [x1, x2, x3, x4]) (l₃ := r) N (l₁ := [a0, a1, a2, a3, a4, a5, a6, a7, a8, a9])
theorem n_split11 {h₀ h : Heap} {L : Addr} {a0 a1 a2 a3 a4 a5 a6 a7 a8 a9 a10 x1 x2 x3 x4 : Addr × Obj} {r : List (Addr × Obj)} (N : News h₀ L h (a0 :: a1 :: a2 :: a3 :: a4 :: a5 :: a6 :: a7 :: a8 :: a9 :: a10 :: x1 :: x2 :: x3 :: x4 :: r)) : News h₀ L h [x1, x2, x3, x4] ∧ News h₀ L h (a0 :: a1 :: a2 :: a3 :: a4 :: a5 :: a6 :: a7 :: a8 :: a9 :: a10 :: r) := n_cut (l₂ := [x1, x2, x3, x4]) (l₃ := r) N (l₁ := [a0, a1, a2, a3, a4, a5, a6, a7, a8, a9, a10])
theorem n_split12 {h₀ h : Heap} {L : Addr} {a0 a1 a2 a3 a4 a5 a6 a7 a8 a9 a10 a11 x1 x2 x3 x4 : Addr × Obj} {r : List (Addr × Obj)} (N : News h₀ L h (a0 :: a1 :: a2 :: a3 :: a4 :: a5 :: a6 :: a7 :: a8 :: a9 :: a10 :: a11 :: x1 :: x2 :: x3 :: x4 :: r)) : News h₀ L h [x1, x2, x3, x4] ∧ News h₀ L h (a0 :: a1 :: a2 :: a3 :: a4 :: a5 :: a6 :: a7 :: a8 :: a9 :: a10 :: a11 :: r) := n_cut (l₂ := [x1, x2, x3, x4]) (l₃ := r) N (l₁ := [a0, a1, a2, a3, a4, a5, a6, a7, a8, a9, a10, a11])
theorem n_split13 {h₀ h : Heap} {L : Addr} {a0 a1 a2 a3 a4 a5 a6 a7 a8 a9 a10 a11 a12 x1 x2 x3 x4 : Addr × Obj} {r : List (Addr × Obj)} (N : News h₀ L h (a0 :: a1 :: a2 :: a3 :: a4 :: a5 :: a6 :: a7 :: a8 :: a9 :: a10 :: a11 :: a12 :: x1 :: x2 :: x3 :: x4 :: r)) : News h₀ L h [x1, x2, x3, x4] ∧ News h₀ L h (a0 :: a1 :: a2 :: a3 :: a4 :: a5 :: a6 :: a7 :: a8 :: a9 :: a10 :: a11 :: a12 :: r) := n_cut (l₂ := [x1, x2, x3, x4]) (l₃ := r) N (l₁ := [a0, a1, a2, a3, a4, a5, a6, a7, a8, a9, a10, a11, a12])
theorem n_split14 {h₀ h : Heap} {L : Addr} {a0 a1 a2 a3 a4 a5 a6 a7 a8 a9 a10 a11 a12 a13 x1 x2 x3 x4 : Addr × Obj} {r : List (Addr × Obj)} (N : News h₀ L h (a0 :: a1 :: a2 :: a3 :: a4 :: a5 :: a6 :: a7 :: a8 :: a9 :: a10 :: a11 :: a12 :: a13 :: x1 :: x2 :: x3 :: x4 :: r)) : News h₀ L h [x1, x2, x3, x4] ∧ News h₀ L h (a0 :: a1 :: a2 :: a3 :: a4 :: a5 :: a6 :: a7 :: a8 :: a9 :: a10 :: a11 :: a12 :: a13 :: r) := n_cut (l₂ := [x1, x2, x3, x4]) (l₃ := r) N (l₁ := [a0, a1, a2, a3, a4, a5, a6, a7, a8, a9, a10, a11, a12, a13])
theorem lenBack_ {Q : Value → Shared → Prop} {n : Int} {t : Tok} {s : Shared} (h : 0 ≤ n ∧ n < 2 ^ 63) (k : Q (.int n s.toks) { s with toks := s.toks + 1 }) : PySem.W.LenBack Q (.int n t) s := ⟨h, k⟩
local macro_rules | `(tactic| walk_at "call ref") => `(tactic| (k_here; (try dsimp only [List.nil_append, List.cons_append]); (with_reducible show wpAny _ _ (call (Value.ref _) [Value.ref _, Value.int _ _]) _ _ _); k_dflt (refine' r_has ?zqB ?zqF ?zqX ?zqT ?zqhk ?zqNN ?zqhoff ?zqhd ?zqho ?zql1 ?zql2 ?zqo1 ?zqo2 ?zqo3 ?zqR ?zqp1 ?zqp2 ?zqle ?zqhin ?zqdp ?zqun ?_; (case zqB => k_asm); (case zqF => k_asm); (case zqX => k_asm); (case zqT => k_asm); (case zqhk => first | rfl | assumption); (case zqNN => first | exact n_split0 (by k_asm) | exact n_split1 (by k_asm) | exact n_split2 (by k_asm) | exact n_split3 (by k_asm) | exact n_split4 (by k_asm) | exact n_split5 (by k_asm) | exact n_split6 (by k_asm) | exact n_split7 (by k_asm) | exact n_split8 (by k_asm) | exact n_split9 (by k_asm) | exact n_split10 (by k_asm) | exact n_split11 (by k_asm) | exact n_split12 (by k_asm) | exact n_split13 (by k_asm) | exact n_split14 (by k_asm)); (case zqR => assumption); (case zqhd => assumption); (case zqho => assumption); (case zqhoff => refine hoff_of ?_; simp only [hoffB, hoffR, and_true]; omega); (case zql1 => assumption); (case zql2 => assumption); (case zqo1 => first | assumption | omega); (case zqo2 => first | assumption | omega); (case zqo3 => first | assumption | omega); (case zqp1 => omega); (case zqp2 => omega); (case zqle => first | assumption | omega); (case zqhin => first | assumption | exact rfl | omega); (case zqdp => ktr_room); (case zqun => ktr_units)); intro h9 tk9 F9 N9; (try simp only [List.append_nil, List.cons_append, List.nil_append] at N9); (try dsimp only); (try k_fold)))
local macro_rules | `(tactic| walk_at "call ref") => `(tactic| (k_here; (try dsimp only [List.nil_append, List.cons_append]); (with_reducible show wpAny _ _ (call (Value.ref _) [Value.ref _, Value.int _ _]) _ _ _); k_dflt (refine' r_hasnt ?zqB ?zqF ?zqX ?zqT ?zqhk ?zqNN ?zqhoff ?zqhd ?zqho ?zql1 ?zql2 ?zqo1 ?zqo2 ?zqo3 ?zqR ?zqp1 ?zqp2 ?zqle ?zqhout ?zqdp ?zqun ?_; (case zqB => k_asm); (case zqF => k_asm); (case zqX => k_asm); (case zqT => k_asm); (case zqhk => first | rfl | assumption); (case zqNN => first | exact n_split0 (by k_asm) | exact n_split1 (by k_asm) | exact n_split2 (by k_asm) | exact n_split3 (by k_asm) | exact n_split4 (by k_asm) | exact n_split5 (by k_asm) | exact n_split6 (by k_asm) | exact n_split7 (by k_asm) | exact n_split8 (by k_asm) | exact n_split9 (by k_asm) | exact n_split10 (by k_asm) | exact n_split11 (by k_asm) | exact n_split12 (by k_asm) | exact n_split13 (by k_asm) | exact n_split14 (by k_asm)); (case zqR => assumption); (case zqhd => assumption); (case zqho => assumption); (case zqhoff => refine hoff_of ?_; simp only [hoffB, hoffR, and_true]; omega); (case zql1 => assumption); (case zql2 => assumption); (case zqo1 => first | assumption | omega); (case zqo2 => first | assumption | omega); (case zqo3 => first | assumption | omega); (case zqp1 => omega); (case zqp2 => omega); (case zqle => first | assumption | omega); (case zqhout => first | assumption | exact rfl | omega); (case zqdp => ktr_room); (case zqun => ktr_units)); intro h9 tk9 F9 N9; (try simp only [List.append_nil, List.cons_append, List.nil_append] at N9); (try dsimp only); (try k_fold)))
local macro_rules | `(tactic| walk_at "call ref") => `(tactic| (k_here; (try dsimp only [List.nil_append, List.cons_append]); (with_reducible show wpAny _ _ (call (Value.ref _) [Value.ref _]) _ _ _); k_dflt (refine' r_len ?zqB ?zqF ?zqX ?zqT ?zqhk ?zqNN ?zqhoff ?zqhd ?zqho ?zql1 ?zql2 ?zqo1 ?zqo2 ?zqo3 ?zqR ?zqp1 ?zqp2 ?zqle  ?zqdp ?zqun ?_; (case zqB => k_asm); (case zqF => k_asm); (case zqX => k_asm); (case zqT => k_asm); (case zqhk => first | rfl | assumption); (case zqNN => first | exact n_split0 (by k_asm) | exact n_split1 (by k_asm) | exact n_split2 (by k_asm) | exact n_split3 (by k_asm) | exact n_split4 (by k_asm) | exact n_split5 (by k_asm) | exact n_split6 (by k_asm) | exact n_split7 (by k_asm) | exact n_split8 (by k_asm) | exact n_split9 (by k_asm) | exact n_split10 (by k_asm) | exact n_split11 (by k_asm) | exact n_split12 (by k_asm) | exact n_split13 (by k_asm) | exact n_split14 (by k_asm)); (case zqR => assumption); (case zqhd => assumption); (case zqho => assumption); (case zqhoff => refine hoff_of ?_; simp only [hoffB, hoffR, and_true]; omega); (case zql1 => assumption); (case zql2 => assumption); (case zqo1 => first | assumption | omega); (case zqo2 => first | assumption | omega); (case zqo3 => first | assumption | omega); (case zqp1 => omega); (case zqp2 => omega); (case zqle => first | assumption | omega); (case zqdp => ktr_room); (case zqun => ktr_units)); intro h9 tk9 t9 F9 N9; (try simp only [List.append_nil, List.cons_append, List.nil_append] at N9); (try (refine lenBack_ ⟨by omega, by omega⟩ ?_)); (try dsimp only); (try k_fold)))
local macro_rules | `(tactic| walk_at "call ref") => `(tactic| (k_here; (try dsimp only [List.nil_append, List.cons_append]); (with_reducible show wpAny _ _ (call (Value.ref _) [Value.ref _]) _ _ _); k_dflt (refine' r_popitem ?zqB ?zqF ?zqX ?zqT ?zqhk ?zqNN ?zqhoff ?zqhd ?zqho ?zql1 ?zql2 ?zqo1 ?zqo2 ?zqo3 ?zqR ?zqp1 ?zqp2 ?zqle ?zqhA ?zqdp ?zqun ?_; (case zqB => k_asm); (case zqF => k_asm); (case zqX => k_asm); (case zqT => k_asm); (case zqhk => first | rfl | assumption); (case zqNN => first | exact n_split0 (by k_asm) | exact n_split1 (by k_asm) | exact n_split2 (by k_asm) | exact n_split3 (by k_asm) | exact n_split4 (by k_asm) | exact n_split5 (by k_asm) | exact n_split6 (by k_asm) | exact n_split7 (by k_asm) | exact n_split8 (by k_asm) | exact n_split9 (by k_asm) | exact n_split10 (by k_asm) | exact n_split11 (by k_asm) | exact n_split12 (by k_asm) | exact n_split13 (by k_asm) | exact n_split14 (by k_asm)); (case zqR => assumption); (case zqhd => assumption); (case zqho => assumption); (case zqhoff => refine hoff_of ?_; simp only [hoffB, hoffR, and_true]; omega); (case zql1 => assumption); (case zql2 => assumption); (case zqo1 => first | assumption | omega); (case zqo2 => first | assumption | omega); (case zqo3 => first | assumption | omega); (case zqp1 => omega); (case zqp2 => omega); (case zqle => first | assumption | omega); (case zqhA => first | assumption | exact rfl | omega); (case zqdp => ktr_room); (case zqun => ktr_units)); intro h9 tk9 od9 oo9 t9 D9 O9 ta9 tk9 tv9 F9 N9 I9 J9 R9 le9 V9 Z9; (try simp only [List.append_nil, List.cons_append, List.nil_append] at N9); (simp only [List.forall_mem_cons, List.forall_mem_nil, and_true] at Z9); (try dsimp only); (try k_fold)))
local macro_rules | `(tactic| walk_at "call ref") => `(tactic| (k_here; (try dsimp only [List.nil_append, List.cons_append]); (with_reducible show wpAny _ _ (call (Value.ref _) [Value.ref _, Value.int _ _, Value.int _ _]) _ _ _); k_dflt (refine' r_set ?zqB ?zqF ?zqXB ?zqTB ?zqDD ?zqhk ?zqNN ?zqhoff ?zqhd ?zqho ?zql1 ?zql2 ?zqo1 ?zqo2 ?zqo3 ?zqR ?zqp1 ?zqp2 ?zqle  ?zqdp ?zqun ?_; (case zqB => k_asm); (case zqF => k_asm); (case zqXB => assumption); (case zqTB => assumption); (case zqDD => assumption); (case zqhk => first | rfl | assumption); (case zqNN => first | exact n_split0 (by k_asm) | exact n_split1 (by k_asm) | exact n_split2 (by k_asm) | exact n_split3 (by k_asm) | exact n_split4 (by k_asm) | exact n_split5 (by k_asm) | exact n_split6 (by k_asm) | exact n_split7 (by k_asm) | exact n_split8 (by k_asm) | exact n_split9 (by k_asm) | exact n_split10 (by k_asm) | exact n_split11 (by k_asm) | exact n_split12 (by k_asm) | exact n_split13 (by k_asm) | exact n_split14 (by k_asm)); (case zqR => assumption); (case zqhd => assumption); (case zqho => assumption); (case zqhoff => refine hoff_of ?_; simp only [hoffB, hoffR, and_true]; omega); (case zql1 => assumption); (case zql2 => assumption); (case zqo1 => first | assumption | omega); (case zqo2 => first | assumption | omega); (case zqo3 => first | assumption | omega); (case zqp1 => omega); (case zqp2 => omega); (case zqle => first | assumption | omega); (case zqdp => ktr_room); (case zqun => ktr_units)); intro h9 tk9 g9 od9 oo9 t9 D9 O9 T9 F9 N9 B9 DD9 I9 J9 R9 le9; (have X9 := up_in (by assumption) B9); (have TT9 := up_top (by assumption) B9); (try simp only [List.append_nil, List.cons_append, List.nil_append] at N9); (try dsimp only); (try k_fold)))
section
variable {w : World} {mean : ExcName → Option Value} {mg mb : Str → Option Value} {dp un : Nat} {gd : Option (List Code)} {cn : Str} {cs : Scope} {a : Addr} {ccd : Value} {cl : List (Str × Addr)} {outer : List Env} {A₀ : Around} {base h₀ : Heap} {L : Addr} {m : Str → Option Value} {s : Shared} {Q E : Value → Shared → Prop}
variable {c dx da oa : Addr} {od oo : Obj} {pn : Nat} {A : List (Int × Int)} {t0 t1 t2 t3 t4 t5 : Tok} {D O : List (Int × Value)}
variable {c' dx' da' oa' : Addr} {od' oo' : Obj} {pn' : Nat} {A' : List (Int × Int)} {t0' t1' t2' t3' t4' t5' : Tok} {D' O' : List (Int × Value)}
variable {rest : List (Addr × Obj)} {key : Int} {tk : Tok} {v : Int} {tv : Tok} {tp : Tok}
variable (B : Below A₀ base outer h₀) (F : Fr h₀ L s.heap m) (XB : (KF w.params).In base) (TB : Top qv (looseW qv lo) mean mg mb base) (DD : KtsDicts (outer.filterMap (·.frame)) h₀) (hk : cs.kind = .function)
  (Ns : News h₀ L s.heap (cL c dx da oa (dictOf (cEs w.params da oa (A.length : Int) (pn : Int) t0 t1 t2 t3 t4 t5) 4) od oo ++ cL c' dx' da' oa' (dictOf (cEs w.params da' oa' (A'.length : Int) (pn' : Int) t0' t1' t2' t3' t4' t5') 4) od' oo')) (Nr : News h₀ L s.heap rest)
  (hoff : ∀ q ∈ rest, ∀ r ∈ [c, dx, da, oa, c', dx', da', oa'], q.1 ≠ r)
  (hd : od.IsDictOf (intKind PW w) D) (ho : oo.IsDictOf (intKind PW w) O) (lo1 : (da == sysModules) = false) (lo2 : (oa == sysModules) = false) (o1 : @LT.lt Nat _ dx c) (o2 : @LT.lt Nat _ c da) (o3 : @LT.lt Nat _ da oa) (R : Rel A D O) (hp1 : 1 ≤ pn) (hp2 : pn ≤ 20) (hle : A.length ≤ pn)
  (hd' : od'.IsDictOf (intKind PW w) D') (ho' : oo'.IsDictOf (intKind PW w) O') (lo1' : (da' == sysModules) = false) (lo2' : (oa' == sysModules) = false) (o1' : @LT.lt Nat _ dx' c') (o2' : @LT.lt Nat _ c' da') (o3' : @LT.lt Nat _ da' oa') (R' : Rel A' D' O') (hp1' : 1 ≤ pn') (hp2' : pn' ≤ 20) (hle' : A'.length ≤ pn')
  (o4 : @LT.lt Nat _ oa dx')
include B F XB TB DD hk Ns Nr hoff hd ho lo1 lo2 o1 o2 o3 R hp1 hp2 hle hd' ho' lo1' lo2' o1' o2' o3' R' hp1' hp2' hle' o4
theorem f_in (hin : key ∈ ks A) (hdp : dp + 35 < recursionLimit) (hun : un + 350 < cLine)
    (hret : ∀ h' tk' g' od1 oo1 t21 D1 O1, KtsTurn (outer.filterMap (·.frame)) h₀ g' → Fr g' L h' m → News g' L h' ((cL c dx da oa (dictOf (cEs w.params da oa ((setA A key v pn).length : Int) (pn : Int) t0 t1 t21 t3 t4 t5) 4) od1 oo1 ++ cL c' dx' da' oa' (dictOf (cEs w.params da' oa' (A'.length : Int) (pn' : Int) t0' t1' t2' t3' t4' t5') 4) od' oo') ++ rest) → Below A₀ base outer g' → KtsDicts (outer.filterMap (·.frame)) g' → Rel (setA A key v pn) D1 O1 → (setA A key v pn).length ≤ pn → od1.IsDictOf (intKind PW w) D1 → oo1.IsDictOf (intKind PW w) O1 → Q .none { s with heap := h', toks := tk' }) :
    wpAny (model PW w) (ktrTop dp un gd cn cs L a ccd cl outer) (call (.ref 906) [.ref c, .ref c', .int pn tp, .int key tk, .int v tv]) Q E s := by
  refine wpAny_call ?_
  refine enterT (i := 34) (j := none) (binds := [(Str.ofString "front", .ref c), (Str.ofString "behind", .ref c'), (Str.ofString "places", .int pn tp), (Str.ofString "key", .int key tk), (Str.ofString "words", .int v tv)]) (by rfl) B F Ns Nr (fun q hq r hr => hoff q hq r.1 (List.mem_map_of_mem hr)) XB TB DD rfl rfl hk (by k_is) (by k_is) (by ktr_room) (BindsTo.of_eq rfl) (locs rfl) ?_ rfl rfl rfl (by decide)
  intro g' L' h' FG' F' N' B' X' T' DD'
  simp only [cL, List.cons_append, List.nil_append] at N'
  (try dsimp only); (try k_lift B')
  k_steps
  all_goals (first | exact hret _ _ _ _ _ _ _ _ (by assumption) (by assumption) (n_app (by assumption) (fun _ h => h) (by assumption)) (by assumption) (by assumption) (by first | assumption | exact rfl | omega) (by first | assumption | exact rfl | omega) (by first | assumption | exact rfl | omega) (by first | assumption | exact rfl | omega) | exact hret _ _ _ _ _ _ _ _ (by assumption) (by assumption) (n_app (by assumption) (fun _ h => List.mem_append_left [_] h) (by assumption)) (by assumption) (by assumption) (by first | assumption | exact rfl | omega) (by first | assumption | exact rfl | omega) (by first | assumption | exact rfl | omega) (by first | assumption | exact rfl | omega) | (refine' hret _ _ _ _ _ _ _ _ (by assumption) (by assumption) (n_app (by assumption) ?_ (by assumption)) (by assumption) (by assumption) (by first | assumption | exact rfl | omega) (by first | assumption | exact rfl | omega) (by first | assumption | exact rfl | omega) (by first | assumption | exact rfl | omega); all_goals (try kcj_all); done) | (exfalso; simp_all; done) | w_report)
theorem f_room (hout : key ∉ ks A) (hr : A.length < pn) (hdp : dp + 35 < recursionLimit) (hun : un + 350 < cLine)
    (hret : ∀ h' tk' g' od1 oo1 t21 D1 O1, KtsTurn (outer.filterMap (·.frame)) h₀ g' → Fr g' L h' m → News g' L h' ((cL c dx da oa (dictOf (cEs w.params da oa ((setA A key v pn).length : Int) (pn : Int) t0 t1 t21 t3 t4 t5) 4) od1 oo1 ++ cL c' dx' da' oa' (dictOf (cEs w.params da' oa' (A'.length : Int) (pn' : Int) t0' t1' t2' t3' t4' t5') 4) od' oo') ++ rest) → Below A₀ base outer g' → KtsDicts (outer.filterMap (·.frame)) g' → Rel (setA A key v pn) D1 O1 → (setA A key v pn).length ≤ pn → od1.IsDictOf (intKind PW w) D1 → oo1.IsDictOf (intKind PW w) O1 → Q .none { s with heap := h', toks := tk' }) :
    wpAny (model PW w) (ktrTop dp un gd cn cs L a ccd cl outer) (call (.ref 906) [.ref c, .ref c', .int pn tp, .int key tk, .int v tv]) Q E s := by
  refine wpAny_call ?_
  refine enterT (i := 34) (j := none) (binds := [(Str.ofString "front", .ref c), (Str.ofString "behind", .ref c'), (Str.ofString "places", .int pn tp), (Str.ofString "key", .int key tk), (Str.ofString "words", .int v tv)]) (by rfl) B F Ns Nr (fun q hq r hr => hoff q hq r.1 (List.mem_map_of_mem hr)) XB TB DD rfl rfl hk (by k_is) (by k_is) (by ktr_room) (BindsTo.of_eq rfl) (locs rfl) ?_ rfl rfl rfl (by decide)
  intro g' L' h' FG' F' N' B' X' T' DD'
  simp only [cL, List.cons_append, List.nil_append] at N'
  (try dsimp only); (try k_lift B')
  k_steps
  all_goals (first | exact hret _ _ _ _ _ _ _ _ (by assumption) (by assumption) (n_app (by assumption) (fun _ h => h) (by assumption)) (by assumption) (by assumption) (by first | assumption | exact rfl | omega) (by first | assumption | exact rfl | omega) (by first | assumption | exact rfl | omega) (by first | assumption | exact rfl | omega) | exact hret _ _ _ _ _ _ _ _ (by assumption) (by assumption) (n_app (by assumption) (fun _ h => List.mem_append_left [_] h) (by assumption)) (by assumption) (by assumption) (by first | assumption | exact rfl | omega) (by first | assumption | exact rfl | omega) (by first | assumption | exact rfl | omega) (by first | assumption | exact rfl | omega) | (refine' hret _ _ _ _ _ _ _ _ (by assumption) (by assumption) (n_app (by assumption) ?_ (by assumption)) (by assumption) (by assumption) (by first | assumption | exact rfl | omega) (by first | assumption | exact rfl | omega) (by first | assumption | exact rfl | omega) (by first | assumption | exact rfl | omega); all_goals (try kcj_all); done) | (exfalso; simp_all; done) | w_report)
theorem f_full {k0 v0 : Int} {A0 : List (Int × Int)} (hout : key ∉ ks A) (hr : A.length = pn) (hA : A = (k0, v0) :: A0) (hdp : dp + 35 < recursionLimit) (hun : un + 350 < cLine)
    (hret : ∀ h' tk' g' od1 oo1 t21 D1 O1 od2 oo2 t22 D2 O2, KtsTurn (outer.filterMap (·.frame)) h₀ g' → Fr g' L h' m → News g' L h' ((cL c dx da oa (dictOf (cEs w.params da oa ((setA A0 key v pn).length : Int) (pn : Int) t0 t1 t21 t3 t4 t5) 4) od1 oo1 ++ cL c' dx' da' oa' (dictOf (cEs w.params da' oa' ((setA A' k0 v0 pn').length : Int) (pn' : Int) t0' t1' t22 t3' t4' t5') 4) od2 oo2) ++ rest) → Below A₀ base outer g' → KtsDicts (outer.filterMap (·.frame)) g' → Rel (setA A0 key v pn) D1 O1 → (setA A0 key v pn).length ≤ pn → Rel (setA A' k0 v0 pn') D2 O2 → (setA A' k0 v0 pn').length ≤ pn' → od1.IsDictOf (intKind PW w) D1 → oo1.IsDictOf (intKind PW w) O1 → od2.IsDictOf (intKind PW w) D2 → oo2.IsDictOf (intKind PW w) O2 → Q .none { s with heap := h', toks := tk' }) :
    wpAny (model PW w) (ktrTop dp un gd cn cs L a ccd cl outer) (call (.ref 906) [.ref c, .ref c', .int pn tp, .int key tk, .int v tv]) Q E s := by
  refine wpAny_call ?_
  refine enterT (i := 34) (j := none) (binds := [(Str.ofString "front", .ref c), (Str.ofString "behind", .ref c'), (Str.ofString "places", .int pn tp), (Str.ofString "key", .int key tk), (Str.ofString "words", .int v tv)]) (by rfl) B F Ns Nr (fun q hq r hr => hoff q hq r.1 (List.mem_map_of_mem hr)) XB TB DD rfl rfl hk (by k_is) (by k_is) (by ktr_room) (BindsTo.of_eq rfl) (locs rfl) ?_ rfl rfl rfl (by decide)
  intro g' L' h' FG' F' N' B' X' T' DD'
  simp only [cL, List.cons_append, List.nil_append] at N'
  (try dsimp only); (try k_lift B')
  k_steps
  all_goals (first | exact hret _ _ _ _ _ _ _ _ _ _ _ _ _ (by assumption) (by assumption) (n_app (by assumption) (fun _ h => h) (by assumption)) (by assumption) (by assumption) (by first | assumption | exact rfl | omega) (by first | assumption | exact rfl | omega) (by first | assumption | exact rfl | omega) (by first | assumption | exact rfl | omega) (by first | assumption | exact rfl | omega) (by first | assumption | exact rfl | omega) (by first | assumption | exact rfl | omega) (by first | assumption | exact rfl | omega) | exact hret _ _ _ _ _ _ _ _ _ _ _ _ _ (by assumption) (by assumption) (n_app (by assumption) (fun _ h => List.mem_append_left [_] h) (by assumption)) (by assumption) (by assumption) (by first | assumption | exact rfl | omega) (by first | assumption | exact rfl | omega) (by first | assumption | exact rfl | omega) (by first | assumption | exact rfl | omega) (by first | assumption | exact rfl | omega) (by first | assumption | exact rfl | omega) (by first | assumption | exact rfl | omega) (by first | assumption | exact rfl | omega) | (refine' hret _ _ _ _ _ _ _ _ _ _ _ _ _ (by assumption) (by assumption) (n_app (by assumption) ?_ (by assumption)) (by assumption) (by assumption) (by first | assumption | exact rfl | omega) (by first | assumption | exact rfl | omega) (by first | assumption | exact rfl | omega) (by first | assumption | exact rfl | omega) (by first | assumption | exact rfl | omega) (by first | assumption | exact rfl | omega) (by first | assumption | exact rfl | omega) (by first | assumption | exact rfl | omega); all_goals (try kcj_all); done) | (exfalso; simp_all; done) | w_report)
end
end
-- part W14
section
section
variable {w : World} {mean : ExcName → Option Value} {mg mb : Str → Option Value} {dp un : Nat} {gd : Option (List Code)} {cn : Str} {cs : Scope} {a : Addr} {ccd : Value} {cl : List (Str × Addr)} {outer : List Env} {A₀ : Around} {base h₀ : Heap} {L : Addr} {m : Str → Option Value} {s : Shared} {Q E : Value → Shared → Prop}
variable {c dx da oa : Addr} {od oo : Obj} {n p : Int} {t0 t1 t2 t3 t4 t5 : Tok} {nn : Nat} {rest : List (Addr × Obj)} {D O : List (Int × Value)} {key : Int} {tk : Tok} {v x : Value}
variable (B : Below A₀ base outer h₀) (F : Fr h₀ L s.heap m) (X : (KF w.params).In h₀) (T : Top qv (looseW qv lo) mean mg mb h₀) (hk : cs.kind = .function)
  (Ns : News h₀ L s.heap (cL c dx da oa (dictOf (cEs w.params da oa n p t0 t1 t2 t3 t4 t5) 4) od oo)) (Nr : News h₀ L s.heap rest) (hoff : ∀ q ∈ rest, ∀ r ∈ [c, dx, da, oa], q.1 ≠ r)
  (hd : od.IsDictOf (intKind PW w) D) (ho : oo.IsDictOf (intKind PW w) O) (lo1 : (da == sysModules) = false) (lo2 : (oa == sysModules) = false) (o1 : @LT.lt Nat _ dx c) (o2 : @LT.lt Nat _ c da) (o3 : @LT.lt Nat _ da oa) (hz1 : D.length ≤ 50) (hz2 : O.length ≤ 50)
include B F X T hk Ns Nr hoff hd ho lo1 lo2 o1 o2 o3 hz1 hz2
theorem c_iter (hdp : dp + 5 < recursionLimit) (hun : un + 50 < cLine)
    (hret : ∀ h' tk' I oI ep, Fr h₀ L h' m → News h₀ L h' ((I, oI) :: cL c dx da oa (dictOf (cEs w.params da oa n p t0 t1 t2 t3 t4 t5) 4) od oo ++ rest) → KdkIter oI da 0 D.length ep → KdkAt (intKind PW w) od D ep →
      @LT.lt Nat _ oa I → (∀ q ∈ rest, @Ne Nat q.1 I) → Q (.ref I) { s with heap := h', toks := tk' }) :
    wpAny (model PW w) (ktrTop dp un gd cn cs L a ccd cl outer) (call (.ref 763) [.ref c]) Q E s := by
  refine wpAny_call ?_
  refine enterP (i := 31) (j := some 9) (binds := [(Str.ofString "self", .ref c)]) (by rfl) B F X Ns Nr (fun q hq r hr => hoff q hq r.1 (List.mem_map_of_mem hr)) T rfl rfl hk (by k_is) (by k_is) (by ktr_room) (by first | exact BindsTo.of_eq rfl | exact binds_K (by k_in) rfl (by k_is) rfl rfl rfl) (locs rfl) ?_ rfl rfl rfl (by decide)
  intro g' L' h' FG' F' N' B' X' T'
  (try dsimp only); (try k_lift B'); (try k_fold)
  k_steps
  rename_i Z9 R9 F9 N9
  exact hret _ _ _ _ _ F9 (n_app N9 (fun _ h => h) R9) (by assumption) (by assumption) (by omega) (fun q hq => Z9 q hq _ List.mem_cons_self)
end
end
-- part W15
section
theorem items_ints {prog : Program} {w : World} {D : List (Int × Value)} : ∀ {acc : Array Value}, ItemsOf (fun i v => ∃ k x, D[i]? = some (k, x) ∧ (intKind prog w).is k v = true) acc D.length → IntsAre acc.toList (ks D) := by
  intro acc h
  obtain ⟨hz, hp⟩ := h
  have aux : ∀ (D : List (Int × Value)) (l : List Value), l.length = D.length → (∀ (j : Nat) (v : Value), l[j]? = some v → ∃ k x, D[j]? = some (k, x) ∧ (intKind prog w).is k v = true) → IntsAre l (ks D) := by
    intro D
    induction D with
    | nil =>
      intro l hl _
      cases l with
      | nil => exact .nil
      | cons _ _ => simp at hl
    | cons q r ih =>
      intro l hl hp
      cases l with
      | nil => simp at hl
      | cons v l =>
        obtain ⟨k, x, e, hk⟩ := hp 0 v rfl
        have e : q = (k, x) := Option.some.inj e
        subst e
        obtain ⟨t, rfl⟩ := PySem.Value.isInt_shape hk
        exact .cons k t (ih l (by simpa using hl) fun j v hj => hp (j + 1) v hj)
  exact aux D acc.toList (by simpa using hz) fun j v hj => hp j v (by simpa using hj)
section
variable {w : World} {mean : ExcName → Option Value} {mg mb : Str → Option Value} {dp un : Nat} {gd : Option (List Code)} {cn : Str} {cs : Scope} {a : Addr} {ccd : Value} {cl : List (Str × Addr)} {outer : List Env} {A₀ : Around} {base h₀ : Heap} {L : Addr} {m : Str → Option Value} {s : Shared} {Q E : Value → Shared → Prop}
variable {c dx da oa : Addr} {od oo : Obj} {n p : Int} {t0 t1 t2 t3 t4 t5 : Tok} {nn : Nat} {rest : List (Addr × Obj)} {D O : List (Int × Value)} {key : Int} {tk : Tok} {v x : Value}
variable (B : Below A₀ base outer h₀) (F : Fr h₀ L s.heap m) (X : (KF w.params).In h₀) (T : Top qv (looseW qv lo) mean mg mb h₀) (hk : cs.kind = .function)
  (Ns : News h₀ L s.heap (cL c dx da oa (dictOf (cEs w.params da oa n p t0 t1 t2 t3 t4 t5) 4) od oo)) (Nr : News h₀ L s.heap rest) (hoff : ∀ q ∈ rest, ∀ r ∈ [c, dx, da, oa], q.1 ≠ r)
  (hd : od.IsDictOf (intKind PW w) D) (ho : oo.IsDictOf (intKind PW w) O) (lo1 : (da == sysModules) = false) (lo2 : (oa == sysModules) = false) (o1 : @LT.lt Nat _ dx c) (o2 : @LT.lt Nat _ c da) (o3 : @LT.lt Nat _ da oa) (hz1 : D.length ≤ 50) (hz2 : O.length ≤ 50)
include B F X T hk Ns Nr hoff hd ho lo1 lo2 o1 o2 o3 hz1 hz2
theorem x_extend {S : Addr} {c₀ : Nat} {res : Value} {RR : Result → Shared → Prop} (hS : News h₀ L s.heap [(S, { cls := .type "list", data := .seq #[] c₀ })]) (hSo : ∀ r ∈ [c, dx, da, oa], @Ne Nat S r) (hSr : ∀ q ∈ rest, @Ne Nat q.1 S) (hdp : dp + 5 < recursionLimit) (hun : un + 60 < cLine)
    (hret : ∀ h' tk' acc c', Fr h₀ L h' m → News h₀ L h' ((S, { cls := .type "list", data := .seq acc c' }) :: cL c dx da oa (dictOf (cEs w.params da oa n p t0 t1 t2 t3 t4 t5) 4) od oo ++ rest) → IntsAre acc.toList (ks D) → RR (.ok (.ret res)) { s with heap := h', toks := tk' }) :
    wpAny (model PW w) (ktrTop dp un gd cn cs L a ccd cl outer).in1 (Builtin.List.listExtendWith (.ref S) (.ref c) res)
      (fun fin s' => match fin with | .done f => RR (.ok f) s' | .again c' => c'.quiet = true ∧ codeAny (model PW w) (ktrTop dp un gd cn cs L a ccd cl outer) c' RR s') (fun e s' => RR (.error e) s') s := by
  have I : InstAt s.heap c (instObj 897 dx) 897 (some (dictOf (cEs w.params da oa n p t0 t1 t2 t3 t4 t5) 4)) := InstAt.of_news Ns (.head _) (.tail _ (.head _))
  unfold Builtin.List.listExtendWith
  refine wpAny_bind (I.type.here ?_)
  have h1 : Builtin.List.listSameRef (.ref S) (.ref c) = false := by
    have := hSo c (by simp)
    simpa [Builtin.List.listSameRef] using this
  have h2 : (Value.ref 897 == Value.type "list") = false := rfl
  have h3 : (Value.ref 897 == Value.type "tuple") = false := rfl
  simp only [h1, h2, h3, Bool.or_false, Bool.false_eq_true, if_false]
  refine wpAny_bind (owit_iter (f := 763) F X I (by k_is) (by k_is) ?_)
  have Nr1 : News h₀ L s.heap ((S, { cls := .type "list", data := .seq #[] c₀ }) :: rest) := fun q hq => (List.mem_cons.mp hq).elim (fun e => e ▸ hS _ (.head _)) fun h => Nr q h
  refine c_iter (dp := dp) (un := un + 1) (rest := (S, { cls := .type "list", data := .seq #[] c₀ }) :: rest) B F X T hk Ns Nr1 (fun q hq r hr => (List.mem_cons.mp hq).elim (fun e => e ▸ hSo r hr) fun h => hoff q h r hr) hd ho lo1 lo2 o1 o2 o3 hz1 hz2 (by omega) (by omega) fun h1 tk1 I oI ep F1 N1 hi ha lI zI => ?_
  have hit := hi.at (h := h1) (N1 _ (.head _)).1
  unfold OwitIt
  refine wpAny_specialOf (name := Str.ofString "__next__") hit.typeIs PySem.F.slot_dict_keyiterator_next.lookup ?_
  dsimp only
  refine wpAny_bind (wpAny_holding ?_)
  have Ns1 : News h₀ L h1 (cL c dx da oa (dictOf (cEs w.params da oa n p t0 t1 t2 t3 t4 t5) 4) od oo) := fun q hq => N1 q (List.mem_append_left _ (List.mem_cons_of_mem _ hq))
  have Nr2 : News h₀ L h1 ((I, oI) :: (S, { cls := .type "list", data := .seq #[] c₀ }) :: rest) := fun q hq => (List.mem_cons.mp hq).elim (fun e => e ▸ N1 _ (.head _)) fun h => N1 q (List.mem_append_right _ h)
  have I1 : InstAt h1 c (instObj 897 dx) 897 (some (dictOf (cEs w.params da oa n p t0 t1 t2 t3 t4 t5) 4)) := InstAt.of_news Ns1 (.head _) (.tail _ (.head _))
  unfold Builtin.List.listLengthHint
  refine wpAny_bind (wpAny_bind (I1.type.here ((looks_findIn (name := "__len__") (r := some (.ref 770)) (X.keeps F1.keep) (by k_is)).here ?_)))
  dsimp only
  refine wpAny_ite_split (fun hab => absurd hab (by decide)) (fun _ => ?_)
  refine wpAny_ite_split (fun _ => ?_) (fun hab => absurd rfl hab)
  refine wpAny_bind (wpAny_rule ?_)
  refine wpAny_bind (wpAny_attempt (len_K (f := 770) (s := { s with heap := h1, toks := tk1 }) F1 X I1 (by k_is) (by k_is) ?_))
  refine c_len (dp := dp) (un := un + 2) (rest := (I, oI) :: (S, { cls := .type "list", data := .seq #[] c₀ }) :: rest) B F1 X T hk Ns1 Nr2 (fun q hq r hr => (List.mem_cons.mp hq).elim (fun e => ?_) fun h => (List.mem_cons.mp h).elim (fun e => e ▸ hSo r hr) fun h => hoff q h r hr) hd ho lo1 lo2 o1 o2 o3 hz1 hz2 (by omega) (by omega) fun h2 tk2 t2' F2 N2 => ?_
  · subst e
    simp only [List.mem_cons, List.not_mem_nil, or_false] at hr
    show @Ne Nat I r
    rcases hr with rfl | rfl | rfl | rfl <;> omega
  refine ⟨⟨by omega, by omega⟩, ?_⟩
  dsimp only
  refine wpAny_bind (m := asInt? _) (wpAny_pure ?_)
  dsimp only
  refine wpAny_ite_split (fun hab => absurd hab (by simp [Builtin.List.listTooLong, sizeLine_eq]; omega)) (fun _ => ?_)
  refine wpAny_pure ?_
  have gS : h2.get? S = some { cls := .type "list", data := .seq #[] c₀ } := (N2 _ (List.mem_append_right _ (.tail _ (.head _)))).1
  have gI : h2.get? I = some oI := (N2 _ (List.mem_append_right _ (.head _))).1
  have gD : h2.get? da = some od := (N2 _ (List.mem_append_left _ (.tail _ (.tail _ (.head _))))).1
  have nS : h₀.get? S = none := (hS _ (.head _)).2.2
  have nI : h₀.get? I = none := (N1 _ (.head _)).2.2
  have LS : @Ne Nat S L := (hS _ (.head _)).2.1
  have LI : @Ne Nat I L := (N1 _ (.head _)).2.1
  have IS : @Ne Nat I S := fun e => zI _ (.head _) e.symm
  have fin : ∀ h3 c3 tk3, h3.get? S = some { cls := .type "list", data := .seq #[] c3 } → (∀ b o, @Ne Nat b S → h2.get? b = some o → h3.get? b = some o) →
      wpAny (model PW w) (ktrTop dp un gd cn cs L a ccd cl outer).in1 (again (.builtin "list.extend.loop" ⟨[.ref S, .ref I, res], []⟩))
      (fun fin s' => match fin with | .done f => RR (.ok f) s' | .again c' => c'.quiet = true ∧ codeAny (model PW w) (ktrTop dp un gd cn cs L a ccd cl outer) c' RR s') (fun e s' => RR (.error e) s') { s with heap := h3, toks := tk3 } := by
    intro h3 c3 tk3 hS3 hk3
    have W := (Walks.dictKeys (prog := PW) (w := w) (knd := intKind PW w) (A := (ktrTop dp un gd cn cs L a ccd cl outer).in1) rfl I da (by show @Ne Nat da I; omega) D ep).toS
    have gI3 := hk3 I _ IS gI
    have gD3 := hk3 da _ (by have := hSo da (by simp); omega) gD
    refine wpAny_pure ⟨plainId_quiet PySem.F.plain_extend_loop _, codeAny_extend_loopS W (by rw [sizeLine_eq]; omega) S (by
      intro hm
      simp only [List.mem_cons, List.not_mem_nil, or_false] at hm
      rcases hm with e | e
      · exact IS e.symm
      · exact hSo da (by simp) e) res D.length 0 _ #[] c3 rfl (Nat.zero_le _) ⟨hi.at gI3, ha.dictAt gD3⟩ hS3 (ItemsOf.nil _) fun s' acc' c' hm hS' hacc => ?_⟩
    obtain ⟨h4, g4, d4, tk4, os4⟩ := s'
    obtain ⟨hm1, hm2, hm3, hm4, hm5⟩ := hm
    have keep : ∀ b o, @Ne Nat b S → @Ne Nat b I → h2.get? b = some o → h4.get? b = some o := fun b o e1 e2 hb => hm1 b o (by
      intro hm
      simp only [List.mem_cons, List.not_mem_nil, or_false] at hm
      rcases hm with e | e
      · exact e1 e
      · exact e2 e) (hk3 b o e1 hb)
    have F4 : Fr h₀ L h4 m := by
      obtain ⟨⟨oL, es, eep, hL, r⟩, hkk, hab⟩ := F2
      exact ⟨⟨oL, es, eep, keep L oL (Ne.symm LS) (Ne.symm LI) hL, r⟩, fun b o hb => keep b o (fun e => by rw [e, nS] at hb; cases hb) (fun e => by rw [e, nI] at hb; cases hb) (hkk b o hb), hab⟩
    have N4 : News h₀ L h4 ((S, { cls := .type "list", data := .seq acc' c' }) :: cL c dx da oa (dictOf (cEs w.params da oa n p t0 t1 t2 t3 t4 t5) 4) od oo ++ rest) := by
      intro q hq
      rcases List.mem_append.mp hq with hq | hq
      · rcases List.mem_cons.mp hq with e | hq
        · rw [e]
          exact ⟨hS', (hS _ (.head _)).2⟩
        · have z := N2 q (List.mem_append_left _ hq)
          refine ⟨keep _ _ (fun e => hSo q.1 (by simp only [cL, List.mem_cons, List.not_mem_nil, or_false] at hq ⊢; rcases hq with rfl | rfl | rfl | rfl <;> simp) e.symm) (fun e => ?_) z.1, z.2⟩
          simp only [cL, List.mem_cons, List.not_mem_nil, or_false] at hq
          rcases hq with rfl | rfl | rfl | rfl <;> (simp only at e; omega)
      · have z := N2 q (List.mem_append_right _ (.tail _ (.tail _ hq)))
        exact ⟨keep _ _ (hSr q hq) (zI q (.tail _ hq)) z.1, z.2⟩
    cases hm2
    cases hm3
    cases hm4
    exact hret h4 tk4 acc' c' F4 N4 (items_ints hacc)
  refine wpAny_ite_split (fun _ => ?_) (fun _ => ?_)
  · refine wpAny_bind (wpAny_rule ?_)
    refine wpAny_bind ?_
    show wpAny _ (ktrTop dp un gd cn cs L a ccd cl outer).in1 (updateSeq S (·.push .none) >>= fun _ => updateSeq S (·.pop)) _ _ _
    refine wpAny_bind (wpAny_updateSeq gS rfl ?_)
    have hS₂ := Heap.get?_update_self (Obj.mapSeq (·.push Value.none)) gS rfl
    refine wpAny_updateSeq (hz := by seq_fits) hS₂ rfl ?_
    have hS₃ := Heap.get?_update_self (Obj.mapSeq (·.pop)) hS₂ rfl
    exact fin _ _ _ hS₃ fun b o hb e => (Heap.get?_update_other _ _ (Ne.symm hb)).trans ((Heap.get?_update_other _ _ (Ne.symm hb)).trans e)
  · exact fin h2 c₀ _ gS fun b o _ e => e
end
end
-- part W16
section
section
variable {w : World} {mean : ExcName → Option Value} {mg mb : Str → Option Value} {dp un : Nat} {gd : Option (List Code)} {cn : Str} {cs : Scope} {a : Addr} {ccd : Value} {cl : List (Str × Addr)} {outer : List Env} {A₀ : Around} {base h₀ : Heap} {L : Addr} {m : Str → Option Value} {s : Shared} {Q E : Value → Shared → Prop}
variable {c dx da oa : Addr} {od oo : Obj} {n p : Int} {t0 t1 t2 t3 t4 t5 : Tok} {nn : Nat} {rest : List (Addr × Obj)} {D O : List (Int × Value)} {key : Int} {tk : Tok} {v x : Value}
variable (B : Below A₀ base outer h₀) (F : Fr h₀ L s.heap m) (X : (KF w.params).In h₀) (T : Top qv (looseW qv lo) mean mg mb h₀) (hk : cs.kind = .function)
  (Ns : News h₀ L s.heap (cL c dx da oa (dictOf (cEs w.params da oa n p t0 t1 t2 t3 t4 t5) 4) od oo)) (Nr : News h₀ L s.heap rest) (hoff : ∀ q ∈ rest, ∀ r ∈ [c, dx, da, oa], q.1 ≠ r)
  (hd : od.IsDictOf (intKind PW w) D) (ho : oo.IsDictOf (intKind PW w) O) (lo1 : (da == sysModules) = false) (lo2 : (oa == sysModules) = false) (o1 : @LT.lt Nat _ dx c) (o2 : @LT.lt Nat _ c da) (o3 : @LT.lt Nat _ da oa) (hz1 : D.length ≤ 50) (hz2 : O.length ≤ 50)
include B F X T hk Ns Nr hoff hd ho lo1 lo2 o1 o2 o3 hz1 hz2
theorem x_collect {QQ : List Value → Shared → Prop} (hdp : dp + 5 < recursionLimit) (hun : un + 60 < cLine)
    (hret : ∀ h' tk' vs, Fr h₀ L h' m → News h₀ L h' (cL c dx da oa (dictOf (cEs w.params da oa n p t0 t1 t2 t3 t4 t5) 4) od oo ++ rest) → IntsAre vs (ks D) → QQ vs { s with heap := h', toks := tk' }) :
    wpAny (model PW w) (ktrTop dp un gd cn cs L a ccd cl outer) (collect (.ref c)) QQ E s := by
  unfold collect
  refine wpAny_bind (wpAny_runValue (codeAny_builtin PySem.F.entry_proto_collect ?_))
  rw [Around.under_plainId PySem.F.plain_proto_collect _]
  show wpAny _ (ktrTop dp un gd cn cs L a ccd cl outer).in1 (newList [] >>= fun l => again (.builtin "list.__iadd__" ⟨[l, .ref c], []⟩)) _ _ s
  refine wpAny_bind (wpAny_newObj_type ?_)
  refine wpAny_pure ⟨plainId_quiet PySem.F.plain_list_iadd _, codeAny_builtin PySem.F.entry_list_iadd ?_⟩
  rw [Around.under_plainId PySem.F.plain_list_iadd _]
  show wpAny _ (ktrTop dp un gd cn cs L a ccd cl outer).in1 (Builtin.List.listExtendWith (.ref s.heap.objs.size) (.ref c) (.ref s.heap.objs.size)) _ _ _
  have kp : ∀ b o, s.heap.get? b = some o → (s.heap.push { cls := .type "list", data := .seq ([] : List Value).toArray }).get? b = some o := fun b o e => Heap.get?_push_of_some _ e
  have N1 := News.kept_cons (o := { cls := .type "list", data := .seq ([] : List Value).toArray }) F Nr kp (Nat.le_refl _) (Heap.get?_push_size _ rfl)
  have ne : ∀ b o, s.heap.get? b = some o → @Ne Nat b s.heap.objs.size := fun b o e => Nat.ne_of_lt (Heap.lt_size e)
  refine x_extend (RR := fun r s' => match r with
    | .ok (.ret v) => wpAny (model PW w) (ktrTop dp un gd cn cs L a ccd cl outer) (match v with
        | .ref a => load a >>= fun o => match o.data with
          | .seq xs _ => pure xs.toList
          | _ => unsupported "internal:collect"
        | _ => unsupported "internal:collect") QQ E s'
    | .ok _ => False
    | .error e => E e s') (s := { s with heap := s.heap.push { cls := .type "list", data := .seq ([] : List Value).toArray } }) (rest := rest) B (F.kept kp) X T hk (fun q hq => ⟨kp _ _ (Ns q hq).1, (Ns q hq).2⟩) (fun q hq => N1 q (.tail _ hq)) hoff hd ho lo1 lo2 o1 o2 o3 hz1 hz2 (S := s.heap.objs.size) (c₀ := 0) (fun q hq => N1 q ((List.mem_singleton.mp hq) ▸ .head _)) (fun r hr => Ne.symm ?_) (fun q hq => ne _ _ (Nr q hq).1) hdp (by omega) fun h' tk' acc c' F' N' ii => ?_
  · simp only [List.mem_cons, List.not_mem_nil, or_false] at hr
    rcases hr with rfl | rfl | rfl | rfl
    · exact ne _ _ (Ns _ (.head _)).1
    · exact ne _ _ (Ns _ (.tail _ (.head _))).1
    · exact ne _ _ (Ns _ (.tail _ (.tail _ (.head _)))).1
    · exact ne _ _ (Ns _ (.tail _ (.tail _ (.tail _ (.head _))))).1
  · show wpAny _ (ktrTop dp un gd cn cs L a ccd cl outer) (load s.heap.objs.size >>= _) _ _ _
    refine wpAny_bind (wpAny_load (N' _ (.head _)).1 ?_)
    exact wpAny_pure (hret h' tk' acc.toList F' (fun q hq => N' q (.tail _ hq)) ii)
theorem x_list (hdp : dp + 5 < recursionLimit) (hun : un + 70 < cLine)
    (hret : ∀ h' tk' S acc c', Fr h₀ L h' m → News h₀ L h' ((S, { cls := .type "list", data := .seq acc c' }) :: cL c dx da oa (dictOf (cEs w.params da oa n p t0 t1 t2 t3 t4 t5) 4) od oo ++ rest) → IntsAre acc.toList (ks D) → (∀ r ∈ [c, dx, da, oa], @LT.lt Nat _ r S) → (∀ q ∈ rest, @LT.lt Nat _ q.1 S) → Q (.ref S) { s with heap := h', toks := tk' }) :
    wpAny (model PW w) (ktrTop dp un gd cn cs L a ccd cl outer) (call (.type "list") [.ref c]) Q E s := by
  refine callType_codes (Q₁ := fun obj s₁ => obj = .ref s.heap.objs.size ∧ s₁ = { s with heap := s.heap.push { cls := .type "list", data := .seq #[] } }) PySem.F.called_list (PySem.F.typeCall_list_1 _) PySem.F.entry_list_init
    (code_list_new _ ⟨rfl, rfl⟩) fun obj s₁ h₁ => ?_
  obtain ⟨rfl, rfl⟩ := h₁
  have hS : (s.heap.push { cls := .type "list", data := .seq #[] }).get? s.heap.objs.size = some { cls := .type "list", data := .seq #[] } := Heap.get?_push_size _ rfl
  refine ⟨⟨_, hS, rfl⟩, PySem.F.args_list_init_2 _ _, ?_⟩
  show wpAny _ (ktrTop dp (un + 1) gd cn cs L a ccd cl outer).in1 (do let old ← Builtin.List.listItems (.ref s.heap.objs.size); Builtin.List.listUpdate (.ref s.heap.objs.size) (fun _ => #[]); letGo old.toList.reverse; Builtin.List.listExtendWith (.ref s.heap.objs.size) (.ref c) .none) _ _ _
  refine wpAny_bind ?_
  unfold Builtin.List.listItems
  refine wpAny_bind (wpAny_seqItems hS rfl (wpAny_pure ?_))
  show wpAny _ (ktrTop dp (un + 1) gd cn cs L a ccd cl outer).in1 (updateSeq s.heap.objs.size (fun _ => #[]) >>= fun _ => letGo (#[] : Array Value).toList.reverse >>= fun _ => Builtin.List.listExtendWith (.ref s.heap.objs.size) (.ref c) .none) _ _ _
  refine wpAny_bind (wpAny_updateSeq hS rfl ?_)
  have hS₂ := Heap.get?_update_self (Obj.mapSeq (fun _ => (#[] : Array Value))) hS rfl
  have lt : ∀ b o, s.heap.get? b = some o → @LT.lt Nat _ b s.heap.objs.size := fun b o e => Heap.lt_size e
  have kp : ∀ b o, s.heap.get? b = some o → ((s.heap.push { cls := .type "list", data := .seq #[] }).update s.heap.objs.size (Obj.mapSeq (fun _ => (#[] : Array Value)))).get? b = some o :=
    fun b o e => (Heap.get?_update_other _ _ (Ne.symm (Nat.ne_of_lt (lt b o e)))).trans (Heap.get?_push_of_some _ e)
  refine wpAny_bind (wpAny_letGo ?_)
  have N1 := News.kept_cons F Nr kp (Nat.le_refl _) hS₂
  refine x_extend (s := { s with heap := (s.heap.push { cls := .type "list", data := .seq #[] }).update s.heap.objs.size (Obj.mapSeq (fun _ => (#[] : Array Value))) }) (rest := rest) B (F.kept kp) X T hk (fun q hq => ⟨kp _ _ (Ns q hq).1, (Ns q hq).2⟩) (fun q hq => N1 q (.tail _ hq)) hoff hd ho lo1 lo2 o1 o2 o3 hz1 hz2 (S := s.heap.objs.size) (fun q hq => N1 q ((List.mem_singleton.mp hq) ▸ .head _)) (fun r hr => Ne.symm (Nat.ne_of_lt (?_ : r < s.heap.objs.size))) (fun q hq => Nat.ne_of_lt (lt _ _ (Nr q hq).1)) hdp (by omega) fun h' tk' acc c' F' N' ii => ⟨rfl, hret h' tk' _ acc c' F' N' ii (fun r hr => ?_) (fun q hq => lt _ _ (Nr q hq).1)⟩
  all_goals
    simp only [List.mem_cons, List.not_mem_nil, or_false] at hr
    rcases hr with rfl | rfl | rfl | rfl
    · exact lt _ _ (Ns _ (.head _)).1
    · exact lt _ _ (Ns _ (.tail _ (.head _))).1
    · exact lt _ _ (Ns _ (.tail _ (.tail _ (.head _)))).1
    · exact lt _ _ (Ns _ (.tail _ (.tail _ (.tail _ (.head _))))).1
theorem x_sorted (hD : D.length < 64) (hdp : dp + 5 < recursionLimit) (hun : un + 70 < cLine)
    (hret : ∀ h' tk' S acc c' ns, Fr h₀ L h' m → News h₀ L h' ((S, { cls := .type "list", data := .seq acc c' }) :: cL c dx da oa (dictOf (cEs w.params da oa n p t0 t1 t2 t3 t4 t5) 4) od oo ++ rest) → IntsAre acc.toList ns → ns.Perm (ks D) → ns.Pairwise (· ≤ ·) → (∀ r ∈ [c, dx, da, oa], @LT.lt Nat _ r S) → (∀ q ∈ rest, @LT.lt Nat _ q.1 S) → Q (.ref S) { s with heap := h', toks := tk' }) :
    wpAny (model PW w) (ktrTop dp un gd cn cs L a ccd cl outer) (call (.builtin "sorted") [.ref c]) Q E s := by
  refine Calls.call_function_entry kind_sorted plain_sorted entry_sorted (args_sorted1 _) ?_
  unfold Builtin.«sorted»
  refine wpAny_bind (m := checkCount "sorted" 1 1 _) (wpAny_pure ?_)
  refine wpAny_bind (x_collect (dp := dp) (un := un + 1) B F X T hk Ns Nr hoff hd ho lo1 lo2 o1 o2 o3 hz1 hz2 hdp (by omega) fun h' tk' vs F' N' ii => ?_)
  refine wpAny_bind (wpAny_newList ?_)
  have hl : vs.length < 64 := by have := IntsAre.length ii; rw [this]; simpa [ks] using hD
  have hoL : (h'.push (seqObj "list" vs.toArray 0)).get? h'.objs.size = some (seqObj "list" vs.toArray 0) := Heap.get?_push_size _ rfl
  refine wpAny_bind (wpAny_holding (wpAny_call_entry slot_list_sort ⟨_, hoL, rfl⟩ entry_list_sort (list_sort_tree hoL ii hl fun out ns' a1 a2 a3 => ⟨_, rfl, ?_⟩) (args_list_sort _)))
  have kp : ∀ b o, h'.get? b = some o → (sortedHeap (h'.push (seqObj "list" vs.toArray 0)) h'.objs.size vs out).get? b = some o := fun b o e => by
    have hlt : b < h'.objs.size := Heap.lt_size e
    rw [sortedHeap_old (Nat.ne_of_lt hlt) (by rw [size_push']; exact Nat.lt_succ_of_lt hlt), Heap.get?_push_ne _ _ _ (Nat.ne_of_lt hlt)]
    exact e
  obtain ⟨e, he⟩ := sortedHeap_at (out := out) hoL
  refine wpAny_pure ⟨_, rfl, hret _ _ _ out e ns' (F'.kept kp) (News.kept_cons F' N' kp (Nat.le_refl _) he) a1 a2 a3 (fun r hr => ?_) fun q hq => Heap.lt_size (N' q (List.mem_append_right _ hq)).1⟩
  simp only [List.mem_cons, List.not_mem_nil, or_false] at hr
  rcases hr with rfl | rfl | rfl | rfl
  · exact Heap.lt_size (N' _ (.head _)).1
  · exact Heap.lt_size (N' _ (.tail _ (.head _))).1
  · exact Heap.lt_size (N' _ (.tail _ (.tail _ (.head _)))).1
  · exact Heap.lt_size (N' _ (.tail _ (.tail _ (.tail _ (.head _))))).1
end
end
-- part W17
section
section
variable {w : World} {mean : ExcName → Option Value} {mg mb : Str → Option Value} {dp un : Nat} {gd : Option (List Code)} {cn : Str} {cs : Scope} {a : Addr} {ccd : Value} {cl : List (Str × Addr)} {outer : List Env} {A₀ : Around} {base h₀ : Heap} {L : Addr} {m : Str → Option Value} {s : Shared} {Q E : Value → Shared → Prop}
variable {c dx da oa : Addr} {od oo : Obj} {pn : Nat} {A : List (Int × Int)} {t0 t1 t2 t3 t4 t5 : Tok} {nn : Nat} {rest : List (Addr × Obj)} {D O : List (Int × Value)} {key : Int} {tk : Tok} {v : Int} {tv : Tok} {x : Value}
variable (B : Below A₀ base outer h₀) (F : Fr h₀ L s.heap m) (X : (KF w.params).In h₀) (T : Top qv (looseW qv lo) mean mg mb h₀) (hk : cs.kind = .function)
  (NN : News h₀ L s.heap (cL c dx da oa (dictOf (cEs w.params da oa (A.length : Int) (pn : Int) t0 t1 t2 t3 t4 t5) 4) od oo) ∧ News h₀ L s.heap rest) (hoff : ∀ q ∈ rest, ∀ r ∈ [c, dx, da, oa], q.1 ≠ r)
  (hd : od.IsDictOf (intKind PW w) D) (ho : oo.IsDictOf (intKind PW w) O) (lo1 : (da == sysModules) = false) (lo2 : (oa == sysModules) = false) (o1 : @LT.lt Nat _ dx c) (o2 : @LT.lt Nat _ c da) (o3 : @LT.lt Nat _ da oa) (R : Rel A D O) (hp1 : 1 ≤ pn) (hp2 : pn ≤ 20) (hle : A.length ≤ pn)
include B F X T hk NN hoff hd ho lo1 lo2 o1 o2 o3 R hp1 hp2 hle
theorem r_list  (hdp : dp + 5 < recursionLimit) (hun : un + 70 < cLine)
    (hret : ∀ h' tk' S vs c' ns, Fr h₀ L h' m → News h₀ L h' ((S, PySem.W.listOf vs.toArray c') :: cL c dx da oa (dictOf (cEs w.params da oa (A.length : Int) (pn : Int) t0 t1 t2 t3 t4 t5) 4) od oo ++ rest) → IntsAre vs ns → ns.Perm (ks A) → (∀ r ∈ [c, dx, da, oa], @LT.lt Nat _ r S) → (∀ q ∈ rest, @LT.lt Nat _ q.1 S) → Q (.ref S) { s with heap := h', toks := tk' }) :
    wpAny (model PW w) (ktrTop dp un gd cn cs L a ccd cl outer) (call (.type "list") [.ref c]) Q E s := by
  exact x_list B F X T hk NN.1 NN.2 hoff hd ho lo1 lo2 o1 o2 o3 (by have := R.len; omega) (by have := R.lenO; omega) hdp hun fun h' tk' S acc c' F' N' ii l1 l2 => hret h' tk' S acc.toList c' _ F' (by rw [Array.toArray_toList]; exact N') ii R.dk l1 l2
theorem r_sorted  (hdp : dp + 5 < recursionLimit) (hun : un + 70 < cLine)
    (hret : ∀ h' tk' S vs c' ns, Fr h₀ L h' m → News h₀ L h' ((S, PySem.W.listOf vs.toArray c') :: cL c dx da oa (dictOf (cEs w.params da oa (A.length : Int) (pn : Int) t0 t1 t2 t3 t4 t5) 4) od oo ++ rest) → IntsAre vs ns → ns.Perm (ks A) → ns.Pairwise (· ≤ ·) → (∀ r ∈ [c, dx, da, oa], @LT.lt Nat _ r S) → (∀ q ∈ rest, @LT.lt Nat _ q.1 S) → Q (.ref S) { s with heap := h', toks := tk' }) :
    wpAny (model PW w) (ktrTop dp un gd cn cs L a ccd cl outer) (call (.builtin "sorted") [.ref c]) Q E s := by
  exact x_sorted B F X T hk NN.1 NN.2 hoff hd ho lo1 lo2 o1 o2 o3 (by have := R.len; omega) (by have := R.lenO; omega) (by have := R.len; omega) hdp hun fun h' tk' S acc c' ns F' N' ii pp ww l1 l2 => hret h' tk' S acc.toList c' ns F' (by rw [Array.toArray_toList]; exact N') ii (pp.trans R.dk) ww l1 l2
end
end
-- part R2
section
/-- the two in a row hold what the one holds, and in its order -/
structure Tan (A B C : List (Int × Int)) (p q : Nat) : Prop where
  eq : C = B ++ A
  nd : (ks C).Nodup
  la : A.length ≤ p
  lb : B.length ≤ q
variable {A B C : List (Int × Int)} {p q : Nat} {k v : Int}
/-- what _law_front leaves: the front one and the one behind -/
def frontA (A B : List (Int × Int)) (k v : Int) (p q : Nat) : List (Int × Int) × List (Int × Int) :=
  if k ∈ ks A then (setA A k v p, B)
  else if A.length < p then (setA A k v p, B)
  else match A with
    | [] => (setA A k v p, B)
    | (k0, v0) :: A0 => (setA A0 k v p, setA B k0 v0 q)
theorem ks_append {V : Type} (l l' : List (Int × V)) : ks (l ++ l') = ks l ++ ks l' := List.map_append
theorem outA_append : outA (A ++ B) k = outA A k ++ outA B k := List.filter_append _ _
theorem outA_self (h : k ∉ ks A) : outA A k = A := List.filter_eq_self.mpr fun x hx => by
  have : x.1 ≠ k := fun e => h (e ▸ List.mem_map.mpr ⟨x, hx, rfl⟩)
  simpa using this
namespace Tan
theorem start (hp : 1 ≤ p) (hq : 1 ≤ q) : Tan [] [] [] p q := ⟨rfl, List.nodup_nil, Nat.zero_le _, Nat.zero_le _⟩
theorem mem (T : Tan A B C p q) : k ∈ ks C ↔ k ∈ ks B ∨ k ∈ ks A := by rw [T.eq, ks_append, List.mem_append]
theorem ndA (T : Tan A B C p q) : (ks A).Nodup := (List.nodup_append.mp (by have := T.nd; rwa [T.eq, ks_append] at this)).2.1
theorem ndB (T : Tan A B C p q) : (ks B).Nodup := (List.nodup_append.mp (by have := T.nd; rwa [T.eq, ks_append] at this)).1
theorem apart (T : Tan A B C p q) (h : k ∈ ks B) : k ∉ ks A := fun h' => (List.nodup_append.mp (by have := T.nd; rwa [T.eq, ks_append] at this)).2.2 k h k h' rfl
theorem lc (T : Tan A B C p q) : C.length ≤ p + q := by rw [T.eq, List.length_append]; have := T.la; have := T.lb; omega
/-- taken out on both ways -/
theorem out (T : Tan A B C p q) (k : Int) : Tan (outA A k) (outA B k) (outA C k) p q :=
  ⟨by rw [T.eq, outA_append], by rw [ks_filter]; exact T.nd.filter _, Nat.le_trans (List.length_filter_le _ _) T.la, Nat.le_trans (List.length_filter_le _ _) T.lb⟩
/-- a key that is held nowhere comes in -/
theorem new (T : Tan A B C p q) (hp : 1 ≤ p) (hq : 1 ≤ q) (h : k ∉ ks C) : Tan (frontA A B k v p q).1 (frontA A B k v p q).2 (setA C k v (p + q)) p q := by
  have hA : k ∉ ks A := fun e => h (T.mem.mpr (.inr e))
  have hB : k ∉ ks B := fun e => h (T.mem.mpr (.inl e))
  have ndC : ∀ D : List (Int × Int), (ks D).Sublist (ks C) → (ks (D ++ [(k, v)])).Nodup := fun D hs => by
    rw [ks_append]
    refine List.nodup_append.mpr ⟨hs.nodup T.nd, by simp, fun a ha b hb => ?_⟩
    simp only [ks, List.map_cons, List.map_nil, List.mem_singleton] at hb
    subst hb
    intro e
    exact h (hs.subset (e ▸ ha))
  have hl : C.length = B.length + A.length := by rw [T.eq, List.length_append]
  have la := T.la
  have lb := T.lb
  unfold frontA
  rw [if_neg hA]
  by_cases h1 : A.length < p
  · rw [if_pos h1]
    have e1 : setA A k v p = A ++ [(k, v)] := by unfold setA; rw [if_neg hA, if_pos h1]
    have e2 : setA C k v (p + q) = C ++ [(k, v)] := by unfold setA; rw [if_neg h, if_pos (by omega)]
    refine ⟨?_, ?_, ?_, lb⟩
    · rw [e2, e1, T.eq, List.append_assoc]
    · rw [e2]; exact ndC C (List.Sublist.refl _)
    · rw [e1, List.length_append, List.length_singleton]; omega
  · rw [if_neg h1]
    match A, T, hA, la, hl, h1 with
    | [], _, _, _, _, h1 => exact absurd (show 0 < p by omega) h1
    | (k0, v0) :: A0, T, hA, la, hl, h1 =>
      have hA0 : k ∉ ks A0 := fun e => hA (List.mem_cons_of_mem _ e)
      have hk0 : k0 ∉ ks B := fun e => T.apart e List.mem_cons_self
      have e1 : setA A0 k v p = A0 ++ [(k, v)] := by
        unfold setA
        rw [if_neg hA0, if_pos (by simp only [List.length_cons] at la; omega)]
      simp only
      simp only [List.length_cons] at la hl h1
      by_cases h2 : B.length < q
      · have e3 : setA B k0 v0 q = B ++ [(k0, v0)] := by unfold setA; rw [if_neg hk0, if_pos h2]
        have e2 : setA C k v (p + q) = C ++ [(k, v)] := by unfold setA; rw [if_neg h, if_pos (by omega)]
        refine ⟨?_, ?_, ?_, ?_⟩
        · rw [e2, e1, e3, T.eq]; simp
        · rw [e2]; exact ndC C (List.Sublist.refl _)
        · rw [e1, List.length_append, List.length_singleton]; omega
        · rw [e3, List.length_append, List.length_singleton]; omega
      · have e3 : setA B k0 v0 q = B.tail ++ [(k0, v0)] := by unfold setA; rw [if_neg hk0, if_neg h2]
        have e2 : setA C k v (p + q) = C.tail ++ [(k, v)] := by unfold setA; rw [if_neg h, if_neg (by omega)]
        have hB0 : B ≠ [] := fun e => by rw [e] at h2; exact h2 (by simp only [List.length_nil]; omega)
        refine ⟨?_, ?_, ?_, ?_⟩
        · rw [e2, e1, e3, T.eq, List.tail_append_of_ne_nil hB0]; simp
        · rw [e2]; exact ndC C.tail ((List.tail_sublist C).map _)
        · rw [e1, List.length_append, List.length_singleton]; omega
        · rw [e3, List.length_append, List.length_singleton, List.length_tail]
          have : 0 < B.length := List.length_pos_iff.mpr hB0
          omega
theorem valA (T : Tan A B C p q) (h : (k, v) ∈ C) (hk : k ∈ ks A) : (k, v) ∈ A := by
  rw [T.eq] at h
  rcases List.mem_append.mp h with h | h
  · exact absurd hk (T.apart (List.mem_map.mpr ⟨_, h, rfl⟩))
  · exact h
theorem valB (T : Tan A B C p q) (h : (k, v) ∈ C) (hk : k ∈ ks B) : (k, v) ∈ B := by
  rw [T.eq] at h
  rcases List.mem_append.mp h with h | h
  · exact h
  · exact absurd (List.mem_map.mpr ⟨_, h, rfl⟩) (T.apart hk)
theorem hitA (T : Tan A B C p q) (h : k ∈ ks A) (v : Int) : Tan (outA A k ++ [(k, v)]) B (outA C k ++ [(k, v)]) p q := by
  have hB : k ∉ ks B := fun e => T.apart e h
  have hC : k ∈ ks C := T.mem.mpr (.inr h)
  have e1 := (Rel.front T.ndA h).length_eq
  have e2 := (Rel.front T.nd hC).nodup_iff.mpr T.nd
  simp only [ks, List.length_append, List.length_map, List.length_singleton] at e1
  refine ⟨?_, ?_, ?_, T.lb⟩
  · rw [T.eq, outA_append, outA_self hB, List.append_assoc]
  · simpa [ks] using e2
  · rw [List.length_append, List.length_singleton]; have := T.la; omega
theorem hitB (T : Tan A B C p q) (hp : 1 ≤ p) (hq : 1 ≤ q) (h : k ∈ ks B) (v : Int) :
    Tan (frontA A (outA B k) k v p q).1 (frontA A (outA B k) k v p q).2 (outA C k ++ [(k, v)]) p q := by
  have hA : k ∉ ks A := T.apart h
  have hC : k ∈ ks C := T.mem.mpr (.inl h)
  have T1 := T.out k
  rw [outA_self hA] at T1
  have h1 : k ∉ ks (outA C k) := Rel.out_not
  have T2 := T1.new (v := v) hp hq h1
  have e1 := (Rel.front T.nd hC).length_eq
  simp only [ks, List.length_append, List.length_map, List.length_singleton] at e1
  have := T.lc
  have e : setA (outA C k) k v (p + q) = outA C k ++ [(k, v)] := by
    unfold setA
    rw [if_neg h1, if_pos (by omega)]
  rwa [e] at T2
/-- the last: one gives the items of behind, then those of front -/
theorem popB {k0 v0 : Int} {B0 : List (Int × Int)} (T : Tan A ((k0, v0) :: B0) C p q) : C = (k0, v0) :: (B0 ++ A) ∧ Tan A B0 (B0 ++ A) p q := by
  have e : C = (k0, v0) :: (B0 ++ A) := T.eq
  refine ⟨e, rfl, ?_, T.la, ?_⟩
  · have := T.nd
    rw [e] at this
    exact (List.nodup_cons.mp this).2
  · have := T.lb
    simp only [List.length_cons] at this
    omega
theorem popA {k0 v0 : Int} {A0 : List (Int × Int)} (T : Tan ((k0, v0) :: A0) [] C p q) : C = (k0, v0) :: A0 ∧ Tan A0 [] A0 p q := by
  have e : C = (k0, v0) :: A0 := T.eq
  refine ⟨e, rfl, ?_, ?_, T.lb⟩
  · have := T.nd
    rw [e] at this
    exact (List.nodup_cons.mp this).2
  · have := T.la
    simp only [List.length_cons] at this
    omega
end Tan
/-- what is known: the words put in or set last -/
def Kn (C : List (Int × Int)) (K : List (Int × Value)) : Prop := ∀ q ∈ C, ∃ t, valueAt K q.1 = some (.int q.2 t)
theorem valueAt_stored_self {K : List (Int × Value)} {x : Value} : valueAt (stored K k x) k = some x := by
  by_cases h : k ∈ ks K
  · unfold valueAt stored
    rw [if_pos (any_iff.mpr h)]
    induction K with
    | nil => cases h
    | cons a r ih =>
      by_cases e : a.1 = k
      · simp [e]
      · have hr : k ∈ ks r := (List.mem_cons.mp h).resolve_left fun z => e z.symm
        simp only [List.map_cons, if_neg e]
        rw [List.find?_cons_of_neg (by simpa using e)]
        exact ih hr
  · rw [stored_out h]
    unfold valueAt
    rw [List.find?_append]
    have : K.find? (fun kv => decide (kv.1 = k)) = none := List.find?_eq_none.mpr fun a ha e => h (List.mem_map.mpr ⟨a, ha, of_decide_eq_true e⟩)
    rw [this]
    simp
theorem valueAt_stored_other {K : List (Int × Value)} {x : Value} {j : Int} (hj : j ≠ k) : valueAt (stored K k x) j = valueAt K j := by
  by_cases h : k ∈ ks K
  · unfold valueAt stored
    rw [if_pos (any_iff.mpr h)]
    clear h
    induction K with
    | nil => rfl
    | cons a r ih =>
      by_cases e : a.1 = k
      · have e2 : ¬ a.1 = j := fun z => hj (z.symm.trans e)
        simp only [List.map_cons, if_pos e]
        rw [List.find?_cons_of_neg (by simpa using e2), List.find?_cons_of_neg (by simpa using e2)]
        exact ih
      · simp only [List.map_cons, if_neg e]
        by_cases e2 : a.1 = j
        · rw [List.find?_cons_of_pos (by simpa using e2), List.find?_cons_of_pos (by simpa using e2)]
        · rw [List.find?_cons_of_neg (by simpa using e2), List.find?_cons_of_neg (by simpa using e2)]
          exact ih
  · rw [stored_out h]
    unfold valueAt
    rw [List.find?_append]
    cases K.find? (fun kv => decide (kv.1 = j)) with
    | some y => rfl
    | none =>
      have : ([(k, x)] : List (Int × Value)).find? (fun kv => decide (kv.1 = j)) = none := by simp [Ne.symm hj]
      rw [this]; rfl
namespace Kn
variable {K : List (Int × Value)}
theorem nil : Kn [] K := fun _ h => nomatch h
theorem sub {C' : List (Int × Int)} (h : Kn C K) (hs : ∀ x ∈ C', x ∈ C) : Kn C' K := fun x hx => h x (hs x hx)
theorem out (h : Kn C K) (k : Int) : Kn (outA C k) K := h.sub fun _ hx => (List.mem_filter.mp hx).1
theorem put (h : Kn C K) {C' : List (Int × Int)} {k v : Int} {t : Tok} (hs : ∀ x ∈ C', x = (k, v) ∨ (x ∈ C ∧ x.1 ≠ k)) : Kn C' (stored K k (.int v t)) := fun x hx => by
  rcases hs x hx with rfl | ⟨hm, hn⟩
  · exact ⟨t, valueAt_stored_self⟩
  · rw [valueAt_stored_other hn]; exact h x hm
theorem got (h : Kn C K) (hin : (k, v) ∈ C) : Kn (outA C k ++ [(k, v)]) K := h.sub fun x hx => by
  rcases List.mem_append.mp hx with hx | hx
  · exact (List.mem_filter.mp hx).1
  · rw [List.mem_singleton.mp hx]; exact hin
theorem set (h : Kn C K) {p : Nat} {t : Tok} : Kn (setA C k v p) (stored K k (.int v t)) := h.put fun x hx => by
  unfold setA at hx
  split at hx
  · rcases List.mem_append.mp hx with hx | hx
    · obtain ⟨h1, h2⟩ := List.mem_filter.mp hx
      exact .inr ⟨h1, by simpa using h2⟩
    · exact .inl (List.mem_singleton.mp hx)
  · rename_i hk
    rcases List.mem_append.mp hx with hx | hx
    · have hm : x ∈ C := by
        split at hx
        · exact hx
        · exact List.mem_of_mem_tail hx
      exact .inr ⟨hm, fun e => hk (e ▸ List.mem_map.mpr ⟨x, hm, rfl⟩)⟩
    · exact .inl (List.mem_singleton.mp hx)
end Kn
end
-- part V1
section
theorem fr_back {h₀ g h : Heap} {L : Addr} {m : Str → Option Value} (T : KtsTurn [] h₀ g) (F : Fr g L h m) : Fr h₀ L h m :=
  ⟨F.ns, fun b o e => F.keep b o (T.other b o e fun h => nomatch h), by have := F.above; rw [T.size] at this; exact this⟩
theorem news_back {h₀ g h : Heap} {L : Addr} {l : List (Addr × Obj)} (T : KtsTurn [] h₀ g) (N : News g L h l) : News h₀ L h l := fun p hp => by
  refine ⟨(N p hp).1, (N p hp).2.1, ?_⟩
  cases q : h₀.get? p.1 with
  | none => rfl
  | some o =>
    have h1 := T.other _ _ q fun h => nomatch h
    rw [(N p hp).2.2] at h1
    cases h1
section
variable {w : World} {mean : ExcName → Option Value} {mg mb : Str → Option Value} {dp un : Nat} {gd : Option (List Code)} {cn : Str} {cs : Scope} {a : Addr} {ccd : Value} {cl : List (Str × Addr)} {outer : List Env} {A₀ : Around} {base h₀ : Heap} {L : Addr} {m : Str → Option Value} {s : Shared} {Q E : Value → Shared → Prop}
variable {c dx da oa : Addr} {od oo : Obj} {pn : Nat} {A : List (Int × Int)} {t0 t1 t2 t3 t4 t5 : Tok} {nn : Nat} {rest : List (Addr × Obj)} {D O : List (Int × Value)} {key : Int} {tk : Tok} {v : Int} {tv : Tok} {x : Value}
variable (B : Below A₀ base outer h₀) (F : Fr h₀ L s.heap m) (XB : (KF w.params).In base) (TB : Top qv (looseW qv lo) mean mg mb base) (DD : KtsDicts (outer.filterMap (·.frame)) h₀) (hk : cs.kind = .function)
  (NN : News h₀ L s.heap (cL c dx da oa (dictOf (cEs w.params da oa (A.length : Int) (pn : Int) t0 t1 t2 t3 t4 t5) 4) od oo) ∧ News h₀ L s.heap rest) (hoff : ∀ q ∈ rest, ∀ r ∈ [c, dx, da, oa], q.1 ≠ r)
  (hd : od.IsDictOf (intKind PW w) D) (ho : oo.IsDictOf (intKind PW w) O) (lo1 : (da == sysModules) = false) (lo2 : (oa == sysModules) = false) (o1 : @LT.lt Nat _ dx c) (o2 : @LT.lt Nat _ c da) (o3 : @LT.lt Nat _ da oa) (R : Rel A D O) (hp1 : 1 ≤ pn) (hp2 : pn ≤ 20) (hle : A.length ≤ pn)
include B F XB TB DD hk NN hoff hd ho lo1 lo2 o1 o2 o3 R hp1 hp2 hle
theorem l_set (hz : outer = []) (hdp : dp + 25 < recursionLimit) (hun : un + 250 < cLine)
    (hret : ∀ h' tk' od' oo' t2' D' O', Fr h₀ L h' m → News h₀ L h' (cL c dx da oa (dictOf (cEs w.params da oa ((setA A key v pn).length : Int) (pn : Int) t0 t1 t2' t3 t4 t5) 4) od' oo' ++ rest) → od'.IsDictOf (intKind PW w) D' → oo'.IsDictOf (intKind PW w) O' → Rel (setA A key v pn) D' O' → (setA A key v pn).length ≤ pn → Q .none { s with heap := h', toks := tk' }) :
    wpAny (model PW w) (ktrTop dp un gd cn cs L a ccd cl outer) (call (.ref 865) [.ref c, .int key tk, .int v tv]) Q E s := by
  subst hz
  exact r_set B F XB TB DD hk NN hoff hd ho lo1 lo2 o1 o2 o3 R hp1 hp2 hle hdp hun fun h' tk' g' od' oo' t2' D' O' T' F' N' _ _ I J R' l' => hret h' tk' od' oo' t2' D' O' (fr_back T' F') (news_back T' N') I J R' l'
end
section
variable {w : World} {mean : ExcName → Option Value} {mg mb : Str → Option Value} {dp un : Nat} {gd : Option (List Code)} {cn : Str} {cs : Scope} {a : Addr} {ccd : Value} {cl : List (Str × Addr)} {outer : List Env} {A₀ : Around} {base h₀ : Heap} {L : Addr} {m : Str → Option Value} {s : Shared} {Q E : Value → Shared → Prop}
variable {c dx da oa : Addr} {od oo : Obj} {pn : Nat} {A : List (Int × Int)} {t0 t1 t2 t3 t4 t5 : Tok} {D O : List (Int × Value)}
variable {c' dx' da' oa' : Addr} {od' oo' : Obj} {pn' : Nat} {A' : List (Int × Int)} {t0' t1' t2' t3' t4' t5' : Tok} {D' O' : List (Int × Value)}
variable {rest : List (Addr × Obj)} {key : Int} {tk : Tok} {v : Int} {tv : Tok} {tp : Tok}
variable (B : Below A₀ base outer h₀) (F : Fr h₀ L s.heap m) (XB : (KF w.params).In base) (TB : Top qv (looseW qv lo) mean mg mb base) (DD : KtsDicts (outer.filterMap (·.frame)) h₀) (hk : cs.kind = .function)
  (Ns : News h₀ L s.heap (cL c dx da oa (dictOf (cEs w.params da oa (A.length : Int) (pn : Int) t0 t1 t2 t3 t4 t5) 4) od oo ++ cL c' dx' da' oa' (dictOf (cEs w.params da' oa' (A'.length : Int) (pn' : Int) t0' t1' t2' t3' t4' t5') 4) od' oo')) (Nr : News h₀ L s.heap rest)
  (hoff : ∀ q ∈ rest, ∀ r ∈ [c, dx, da, oa, c', dx', da', oa'], q.1 ≠ r)
  (hd : od.IsDictOf (intKind PW w) D) (ho : oo.IsDictOf (intKind PW w) O) (lo1 : (da == sysModules) = false) (lo2 : (oa == sysModules) = false) (o1 : @LT.lt Nat _ dx c) (o2 : @LT.lt Nat _ c da) (o3 : @LT.lt Nat _ da oa) (R : Rel A D O) (hp1 : 1 ≤ pn) (hp2 : pn ≤ 20) (hle : A.length ≤ pn)
  (hd' : od'.IsDictOf (intKind PW w) D') (ho' : oo'.IsDictOf (intKind PW w) O') (lo1' : (da' == sysModules) = false) (lo2' : (oa' == sysModules) = false) (o1' : @LT.lt Nat _ dx' c') (o2' : @LT.lt Nat _ c' da') (o3' : @LT.lt Nat _ da' oa') (R' : Rel A' D' O') (hp1' : 1 ≤ pn') (hp2' : pn' ≤ 20) (hle' : A'.length ≤ pn')
  (o4 : @LT.lt Nat _ oa dx')
include B F XB TB DD hk Ns Nr hoff hd ho lo1 lo2 o1 o2 o3 R hp1 hp2 hle hd' ho' lo1' lo2' o1' o2' o3' R' hp1' hp2' hle' o4
theorem l_front (hz : outer = []) (hdp : dp + 35 < recursionLimit) (hun : un + 350 < cLine)
    (hret : ∀ h' tk' od1 oo1 t21 D1 O1 od2 oo2 t22 D2 O2, Fr h₀ L h' m → News h₀ L h' ((cL c dx da oa (dictOf (cEs w.params da oa ((frontA A A' key v pn pn').1.length : Int) (pn : Int) t0 t1 t21 t3 t4 t5) 4) od1 oo1 ++ cL c' dx' da' oa' (dictOf (cEs w.params da' oa' ((frontA A A' key v pn pn').2.length : Int) (pn' : Int) t0' t1' t22 t3' t4' t5') 4) od2 oo2) ++ rest) → od1.IsDictOf (intKind PW w) D1 → oo1.IsDictOf (intKind PW w) O1 → od2.IsDictOf (intKind PW w) D2 → oo2.IsDictOf (intKind PW w) O2 → Rel (frontA A A' key v pn pn').1 D1 O1 → (frontA A A' key v pn pn').1.length ≤ pn → Rel (frontA A A' key v pn pn').2 D2 O2 → (frontA A A' key v pn pn').2.length ≤ pn' → Q .none { s with heap := h', toks := tk' }) :
    wpAny (model PW w) (ktrTop dp un gd cn cs L a ccd cl outer) (call (.ref 906) [.ref c, .ref c', .int pn tp, .int key tk, .int v tv]) Q E s := by
  subst hz
  by_cases h : key ∈ ks A
  · have e : frontA A A' key v pn pn' = (setA A key v pn, A') := if_pos h
    rw [e] at hret
    exact f_in B F XB TB DD hk Ns Nr hoff hd ho lo1 lo2 o1 o2 o3 R hp1 hp2 hle hd' ho' lo1' lo2' o1' o2' o3' R' hp1' hp2' hle' o4 h hdp hun fun h' tk' g' od1 oo1 t21 D1 O1 T' F' N' _ _ R1 l1 I1 J1 => hret h' tk' od1 oo1 t21 D1 O1 od' oo' _ D' O' (fr_back T' F') (news_back T' N') I1 J1 hd' ho' R1 l1 R' hle'
  · by_cases hr : A.length < pn
    · have e : frontA A A' key v pn pn' = (setA A key v pn, A') := by unfold frontA; rw [if_neg h, if_pos hr]
      rw [e] at hret
      exact f_room B F XB TB DD hk Ns Nr hoff hd ho lo1 lo2 o1 o2 o3 R hp1 hp2 hle hd' ho' lo1' lo2' o1' o2' o3' R' hp1' hp2' hle' o4 h hr hdp hun fun h' tk' g' od1 oo1 t21 D1 O1 T' F' N' _ _ R1 l1 I1 J1 => hret h' tk' od1 oo1 t21 D1 O1 od' oo' _ D' O' (fr_back T' F') (news_back T' N') I1 J1 hd' ho' R1 l1 R' hle'
    · cases hA : A with
      | nil => rw [hA] at hr; exact absurd (show 0 < pn by omega) hr
      | cons q A0 =>
        obtain ⟨k0, v0⟩ := q
        have e : frontA A A' key v pn pn' = (setA A0 key v pn, setA A' k0 v0 pn') := by unfold frontA; rw [if_neg h, if_neg hr, hA]
        rw [e] at hret
        exact f_full B F XB TB DD hk Ns Nr hoff hd ho lo1 lo2 o1 o2 o3 R hp1 hp2 hle hd' ho' lo1' lo2' o1' o2' o3' R' hp1' hp2' hle' o4 h (by omega) hA hdp hun fun h' tk' g' od1 oo1 t21 D1 O1 od2 oo2 t22 D2 O2 T' F' N' _ _ R1 l1 R2 l2 I1 J1 I2 J2 => hret h' tk' od1 oo1 t21 D1 O1 od2 oo2 t22 D2 O2 (fr_back T' F') (news_back T' N') I1 J1 I2 J2 R1 l1 R2 l2
end
section
variable {w : World} {mean : ExcName → Option Value} {mg mb : Str → Option Value} {dp un : Nat} {gd : Option (List Code)} {cn : Str} {cs : Scope} {a : Addr} {ccd : Value} {cl : List (Str × Addr)} {outer : List Env} {A₀ : Around} {base h₀ : Heap} {L : Addr} {m : Str → Option Value} {s : Shared} {Q E : Value → Shared → Prop}
variable {c dx da oa : Addr} {od oo : Obj} {pn : Nat} {A : List (Int × Int)} {t0 t1 t2 t3 t4 t5 : Tok} {D O : List (Int × Value)}
variable {c' dx' da' oa' : Addr} {od' oo' : Obj} {pn' : Nat} {A' : List (Int × Int)} {t0' t1' t2' t3' t4' t5' : Tok} {D' O' : List (Int × Value)}
variable {rest : List (Addr × Obj)} {key : Int} {tk : Tok} {v : Int} {tv : Tok} {tp : Tok}
variable (B : Below A₀ base outer h₀) (F : Fr h₀ L s.heap m) (XB : (KF w.params).In base) (TB : Top qv (looseW qv lo) mean mg mb base) (DD : KtsDicts (outer.filterMap (·.frame)) h₀) (hk : cs.kind = .function)
  (NN : News h₀ L s.heap (cL c dx da oa (dictOf (cEs w.params da oa (A.length : Int) (pn : Int) t0 t1 t2 t3 t4 t5) 4) od oo ++ cL c' dx' da' oa' (dictOf (cEs w.params da' oa' (A'.length : Int) (pn' : Int) t0' t1' t2' t3' t4' t5') 4) od' oo') ∧ News h₀ L s.heap rest) (hoff : ∀ q ∈ rest, ∀ r ∈ [c, dx, da, oa, c', dx', da', oa'], q.1 ≠ r)
  (hd : od.IsDictOf (intKind PW w) D) (ho : oo.IsDictOf (intKind PW w) O) (lo1 : (da == sysModules) = false) (lo2 : (oa == sysModules) = false) (o1 : @LT.lt Nat _ dx c) (o2 : @LT.lt Nat _ c da) (o3 : @LT.lt Nat _ da oa) (R : Rel A D O) (hp1 : 1 ≤ pn) (hp2 : pn ≤ 20) (hle : A.length ≤ pn)
  (hd' : od'.IsDictOf (intKind PW w) D') (ho' : oo'.IsDictOf (intKind PW w) O') (lo1' : (da' == sysModules) = false) (lo2' : (oa' == sysModules) = false) (o1' : @LT.lt Nat _ dx' c') (o2' : @LT.lt Nat _ c' da') (o3' : @LT.lt Nat _ da' oa') (R' : Rel A' D' O') (hp1' : 1 ≤ pn') (hp2' : pn' ≤ 20) (hle' : A'.length ≤ pn')
  (o4 : @LT.lt Nat _ oa dx')
include B F XB TB DD hk NN hoff hd ho lo1 lo2 o1 o2 o3 R hp1 hp2 hle hd' ho' lo1' lo2' o1' o2' o3' R' hp1' hp2' hle' o4
theorem l_front2 (hz : outer = []) (hdp : dp + 35 < recursionLimit) (hun : un + 350 < cLine)
    (hret : ∀ h' tk' od1 oo1 t21 D1 O1 od2 oo2 t22 D2 O2, Fr h₀ L h' m → News h₀ L h' ((cL c dx da oa (dictOf (cEs w.params da oa ((frontA A A' key v pn pn').1.length : Int) (pn : Int) t0 t1 t21 t3 t4 t5) 4) od1 oo1 ++ cL c' dx' da' oa' (dictOf (cEs w.params da' oa' ((frontA A A' key v pn pn').2.length : Int) (pn' : Int) t0' t1' t22 t3' t4' t5') 4) od2 oo2) ++ rest) → od1.IsDictOf (intKind PW w) D1 → oo1.IsDictOf (intKind PW w) O1 → od2.IsDictOf (intKind PW w) D2 → oo2.IsDictOf (intKind PW w) O2 → Rel (frontA A A' key v pn pn').1 D1 O1 → (frontA A A' key v pn pn').1.length ≤ pn → Rel (frontA A A' key v pn pn').2 D2 O2 → (frontA A A' key v pn pn').2.length ≤ pn' → Q .none { s with heap := h', toks := tk' }) :
    wpAny (model PW w) (ktrTop dp un gd cn cs L a ccd cl outer) (call (.ref 906) [.ref c, .ref c', .int pn tp, .int key tk, .int v tv]) Q E s := by
  exact l_front B F XB TB DD hk NN.1 NN.2 hoff hd ho lo1 lo2 o1 o2 o3 R hp1 hp2 hle hd' ho' lo1' lo2' o1' o2' o3' R' hp1' hp2' hle' o4 hz hdp hun hret
end
theorem n_twoA1_0 {h₀ h : Heap} {L : Addr} {a0 x1 x2 x3 x4 y1 y2 y3 y4 : Addr × Obj} {r : List (Addr × Obj)} (N : News h₀ L h (a0 :: x1 :: x2 :: x3 :: x4 :: y1 :: y2 :: y3 :: y4 :: r)) : News h₀ L h ([x1, x2, x3, x4] ++ [y1, y2, y3, y4]) ∧ News h₀ L h (a0 :: r) := ⟨fun p hp => N p (by simp only [List.mem_cons, List.mem_append, List.not_mem_nil, or_false] at hp ⊢; grind), fun p hp => N p (by simp only [List.mem_cons, List.mem_append, List.not_mem_nil, or_false] at hp ⊢; grind)⟩
theorem n_twoB1_0 {h₀ h : Heap} {L : Addr} {a0 x1 x2 x3 x4 y1 y2 y3 y4 : Addr × Obj} {r : List (Addr × Obj)} (N : News h₀ L h (a0 :: x1 :: x2 :: x3 :: x4 :: y1 :: y2 :: y3 :: y4 :: r)) : News h₀ L h ([y1, y2, y3, y4] ++ [x1, x2, x3, x4]) ∧ News h₀ L h (a0 :: r) := ⟨fun p hp => N p (by simp only [List.mem_cons, List.mem_append, List.not_mem_nil, or_false] at hp ⊢; grind), fun p hp => N p (by simp only [List.mem_cons, List.mem_append, List.not_mem_nil, or_false] at hp ⊢; grind)⟩
theorem n_twoA0_6 {h₀ h : Heap} {L : Addr} {b0 b1 b2 b3 b4 b5 x1 x2 x3 x4 y1 y2 y3 y4 : Addr × Obj} {r : List (Addr × Obj)} (N : News h₀ L h (x1 :: x2 :: x3 :: x4 :: b0 :: b1 :: b2 :: b3 :: b4 :: b5 :: y1 :: y2 :: y3 :: y4 :: r)) : News h₀ L h ([x1, x2, x3, x4] ++ [y1, y2, y3, y4]) ∧ News h₀ L h (b0 :: b1 :: b2 :: b3 :: b4 :: b5 :: r) := ⟨fun p hp => N p (by simp only [List.mem_cons, List.mem_append, List.not_mem_nil, or_false] at hp ⊢; grind), fun p hp => N p (by simp only [List.mem_cons, List.mem_append, List.not_mem_nil, or_false] at hp ⊢; grind)⟩
theorem n_twoB0_6 {h₀ h : Heap} {L : Addr} {b0 b1 b2 b3 b4 b5 x1 x2 x3 x4 y1 y2 y3 y4 : Addr × Obj} {r : List (Addr × Obj)} (N : News h₀ L h (x1 :: x2 :: x3 :: x4 :: b0 :: b1 :: b2 :: b3 :: b4 :: b5 :: y1 :: y2 :: y3 :: y4 :: r)) : News h₀ L h ([y1, y2, y3, y4] ++ [x1, x2, x3, x4]) ∧ News h₀ L h (b0 :: b1 :: b2 :: b3 :: b4 :: b5 :: r) := ⟨fun p hp => N p (by simp only [List.mem_cons, List.mem_append, List.not_mem_nil, or_false] at hp ⊢; grind), fun p hp => N p (by simp only [List.mem_cons, List.mem_append, List.not_mem_nil, or_false] at hp ⊢; grind)⟩
theorem n_twoA0_0 {h₀ h : Heap} {L : Addr} {x1 x2 x3 x4 y1 y2 y3 y4 : Addr × Obj} {r : List (Addr × Obj)} (N : News h₀ L h (x1 :: x2 :: x3 :: x4 :: y1 :: y2 :: y3 :: y4 :: r)) : News h₀ L h ([x1, x2, x3, x4] ++ [y1, y2, y3, y4]) ∧ News h₀ L h (r) := ⟨fun p hp => N p (by simp only [List.mem_cons, List.mem_append, List.not_mem_nil, or_false] at hp ⊢; grind), fun p hp => N p (by simp only [List.mem_cons, List.mem_append, List.not_mem_nil, or_false] at hp ⊢; grind)⟩
theorem n_twoB0_0 {h₀ h : Heap} {L : Addr} {x1 x2 x3 x4 y1 y2 y3 y4 : Addr × Obj} {r : List (Addr × Obj)} (N : News h₀ L h (x1 :: x2 :: x3 :: x4 :: y1 :: y2 :: y3 :: y4 :: r)) : News h₀ L h ([y1, y2, y3, y4] ++ [x1, x2, x3, x4]) ∧ News h₀ L h (r) := ⟨fun p hp => N p (by simp only [List.mem_cons, List.mem_append, List.not_mem_nil, or_false] at hp ⊢; grind), fun p hp => N p (by simp only [List.mem_cons, List.mem_append, List.not_mem_nil, or_false] at hp ⊢; grind)⟩
theorem n_twoA2_0 {h₀ h : Heap} {L : Addr} {a0 a1 x1 x2 x3 x4 y1 y2 y3 y4 : Addr × Obj} {r : List (Addr × Obj)} (N : News h₀ L h (a0 :: a1 :: x1 :: x2 :: x3 :: x4 :: y1 :: y2 :: y3 :: y4 :: r)) : News h₀ L h ([x1, x2, x3, x4] ++ [y1, y2, y3, y4]) ∧ News h₀ L h (a0 :: a1 :: r) := ⟨fun p hp => N p (by simp only [List.mem_cons, List.mem_append, List.not_mem_nil, or_false] at hp ⊢; grind), fun p hp => N p (by simp only [List.mem_cons, List.mem_append, List.not_mem_nil, or_false] at hp ⊢; grind)⟩
theorem n_twoB2_0 {h₀ h : Heap} {L : Addr} {a0 a1 x1 x2 x3 x4 y1 y2 y3 y4 : Addr × Obj} {r : List (Addr × Obj)} (N : News h₀ L h (a0 :: a1 :: x1 :: x2 :: x3 :: x4 :: y1 :: y2 :: y3 :: y4 :: r)) : News h₀ L h ([y1, y2, y3, y4] ++ [x1, x2, x3, x4]) ∧ News h₀ L h (a0 :: a1 :: r) := ⟨fun p hp => N p (by simp only [List.mem_cons, List.mem_append, List.not_mem_nil, or_false] at hp ⊢; grind), fun p hp => N p (by simp only [List.mem_cons, List.mem_append, List.not_mem_nil, or_false] at hp ⊢; grind)⟩
end
-- part L0
section
theorem lit_in {α : Type} {x : Option α} {a b : α} (h : x = some a) (h' : x = some b) : a = b := Option.some.inj (h.symm.trans h')
-- the law's own statements, by place
def forB (b : List Stmt) : List Stmt := match b.getD 5 (.Pass ⟨0, 0, 0, 0⟩) with
  | .For _ _ b _ _ => b
  | _ => []
def whlT (b : List Stmt) : PySem.Expr := match b.getD 6 (.Pass ⟨0, 0, 0, 0⟩) with
  | .While t _ _ _ => t
  | _ => .Name (Str.ofString "x") ⟨0, 0, 0, 0⟩
def whlB (b : List Stmt) : List Stmt := match b.getD 6 (.Pass ⟨0, 0, 0, 0⟩) with
  | .While _ b _ _ => b
  | _ => []
/-- the locals that stay, over whatever else there is -/
def mI (kd c1 c2 c3 ln : Addr) (p1 p2 : Nat) (t1 t2 : Tok) (rest : Str → Option Value) : Str → Option Value := fun y => if y = Str.ofString "known" then some (.ref kd) else if y = Str.ofString "front" then some (.ref c1) else if y = Str.ofString "behind" then some (.ref c2) else if y = Str.ofString "one" then some (.ref c3) else if y = Str.ofString "others" then some (.int p2 t2) else if y = Str.ofString "places" then some (.int p1 t1) else if y = Str.ofString "numbers" then some (.ref ln) else rest y
/-- what the law holds on the heap: three caches, what is known, the numbers -/
abbrev wL (kd : Addr) (okd : Obj) (l3 l2 l1 : List (Addr × Obj)) (ln : Addr) (vs : List Value) : List (Addr × Obj) := (kd, okd) :: (l3 ++ (l2 ++ (l1 ++ [(ln, PySem.W.listOf vs.toArray 0)])))
theorem mI_in {h₀ h : Heap} {L kd c1 c2 c3 ln : Addr} {p1 p2 : Nat} {t1 t2 : Tok} {m : Str → Option Value} (F : Fr h₀ L h m) (e0 : m (Str.ofString "known") = some (.ref kd)) (e1 : m (Str.ofString "front") = some (.ref c1)) (e2 : m (Str.ofString "behind") = some (.ref c2)) (e3 : m (Str.ofString "one") = some (.ref c3)) (e4 : m (Str.ofString "others") = some (.int p2 t2)) (e5 : m (Str.ofString "places") = some (.int p1 t1)) (e6 : m (Str.ofString "numbers") = some (.ref ln)) : Fr h₀ L h (mI kd c1 c2 c3 ln p1 p2 t1 t2 m) := by
  have e : mI kd c1 c2 c3 ln p1 p2 t1 t2 m = m := by
    funext y
    unfold mI
    by_cases g0 : y = Str.ofString "known"
    · rw [if_pos g0, g0, e0]
    rw [if_neg g0]
    by_cases g1 : y = Str.ofString "front"
    · rw [if_pos g1, g1, e1]
    rw [if_neg g1]
    by_cases g2 : y = Str.ofString "behind"
    · rw [if_pos g2, g2, e2]
    rw [if_neg g2]
    by_cases g3 : y = Str.ofString "one"
    · rw [if_pos g3, g3, e3]
    rw [if_neg g3]
    by_cases g4 : y = Str.ofString "others"
    · rw [if_pos g4, g4, e4]
    rw [if_neg g4]
    by_cases g5 : y = Str.ofString "places"
    · rw [if_pos g5, g5, e5]
    rw [if_neg g5]
    by_cases g6 : y = Str.ofString "numbers"
    · rw [if_pos g6, g6, e6]
    rw [if_neg g6]
  rw [e]
  exact F
/-- the law's state between two statements of a turn -/
def Mid (w : World) (h₀ : Heap) (L I : Addr) (it : Obj) (kd ln : Addr) (vs : List Value) (p1 p2 p3 : Nat) (t1 t2 : Tok) (c1 dx1 da1 oa1 c2 dx2 da2 oa2 c3 dx3 da3 oa3 : Addr) (u1 v1 x1 y1 z1 u2 v2 x2 y2 z2 u3 v3 x3 y3 z3 : Tok) (b : Nat) (s : Shared) : Prop :=
  ∃ rest od1 oo1 A1 D1 O1 w1 od2 oo2 A2 D2 O2 w2 od3 oo3 A3 D3 O3 w3 okd K, Tan A1 A2 A3 p1 p2 ∧ Rel A1 D1 O1 ∧ Rel A2 D2 O2 ∧ Rel A3 D3 O3 ∧ Kn A3 K ∧ Fr h₀ L s.heap (mI kd c1 c2 c3 ln p1 p2 t1 t2 rest) ∧ News h₀ L s.heap ((I, it) :: wL kd okd (cL c3 dx3 da3 oa3 (dictOf (cEs w.params da3 oa3 ((A3).length : Int) (p3 : Int) u3 v3 w3 x3 y3 z3) 4) od3 oo3) (cL c2 dx2 da2 oa2 (dictOf (cEs w.params da2 oa2 ((A2).length : Int) (p2 : Int) u2 v2 w2 x2 y2 z2) 4) od2 oo2) (cL c1 dx1 da1 oa1 (dictOf (cEs w.params da1 oa1 ((A1).length : Int) (p1 : Int) u1 v1 w1 x1 y1 z1) 4) od1 oo1) ln vs) ∧ od1.IsDictOf (intKind PW w) D1 ∧ oo1.IsDictOf (intKind PW w) O1 ∧ od2.IsDictOf (intKind PW w) D2 ∧ oo2.IsDictOf (intKind PW w) O2 ∧ od3.IsDictOf (intKind PW w) D3 ∧ oo3.IsDictOf (intKind PW w) O3 ∧ okd.IsDictOf (intKind PW w) K ∧ K.length ≤ b
theorem ne_same {prog : Program} {w : World} {A : Around} {E : Value → Shared → Prop} {s : Shared} {Q : Value → Shared → Prop} {a : Int} {t u : Tok} (h : Q (.bool false) s) : wpAny (model prog w) A (compareOp .NotEq (.int a t) (.int a u)) Q E s := PyProof.Rows.ne_int (by rw [bne_self_eq_false]; exact h)
theorem eq_yes {prog : Program} {w : World} {A : Around} {E : Value → Shared → Prop} {s : Shared} {Q : Value → Shared → Prop} {a b : Int} {t u : Tok} (e : a = b) (h : Q (.bool true) s) : wpAny (model prog w) A (compareOp .Eq (.int a t) (.int b u)) Q E s := PyProof.Rows.eq_int (by rw [beq_iff_eq.mpr e]; exact h)
theorem eq_no {prog : Program} {w : World} {A : Around} {E : Value → Shared → Prop} {s : Shared} {Q : Value → Shared → Prop} {a b : Int} {t u : Tok} (e : a ≠ b) (h : Q (.bool false) s) : wpAny (model prog w) A (compareOp .Eq (.int a t) (.int b u)) Q E s := PyProof.Rows.eq_int (by rw [beq_eq_false_iff_ne.mpr e]; exact h)
namespace Tan
variable {A B C : List (Int × Int)} {p q : Nat} {k v : Int}
theorem lenC (T : Tan A B C p q) : C.length ≤ p + q := T.lc
theorem setOut (T : Tan A B C p q) (hp : 1 ≤ p) (hq : 1 ≤ q) (h : k ∉ ks B) (v : Int) : Tan (frontA A B k v p q).1 (frontA A B k v p q).2 (setA C k v (p + q)) p q := by
  by_cases hA : k ∈ ks A
  · have hC : k ∈ ks C := T.mem.mpr (.inr hA)
    have e1 : frontA A B k v p q = (outA A k ++ [(k, v)], B) := by unfold frontA; rw [if_pos hA]; unfold setA; rw [if_pos hA]
    have e2 : setA C k v (p + q) = outA C k ++ [(k, v)] := if_pos hC
    rw [e1, e2]
    exact T.hitA hA v
  · exact T.new hp hq fun h' => (T.mem.mp h').elim h hA
theorem setIn (T : Tan A B C p q) (hp : 1 ≤ p) (hq : 1 ≤ q) (h : k ∈ ks B) (v : Int) : Tan (frontA A (outA B k) k v p q).1 (frontA A (outA B k) k v p q).2 (setA C k v (p + q)) p q := by
  have hC : k ∈ ks C := T.mem.mpr (.inl h)
  have e2 : setA C k v (p + q) = outA C k ++ [(k, v)] := if_pos hC
  rw [e2]
  exact T.hitB hp hq h v
theorem outA1 (T : Tan A B C p q) (h : k ∈ ks A) : Tan (outA A k) B (outA C k) p q := by
  have := T.out k
  rwa [outA_self (fun e => T.apart e h : k ∉ ks B)] at this
theorem outB1 (T : Tan A B C p q) (h : k ∈ ks B) : Tan A (outA B k) (outA C k) p q := by
  have := T.out k
  rwa [outA_self (T.apart h)] at this
end Tan
end
section
local macro_rules | `(tactic| walk_at "call ref") => `(tactic| (k_here; (try dsimp only [List.nil_append, List.cons_append]); (with_reducible show wpAny _ _ (call (Value.ref _) [Value.ref _, Value.int _ _]) _ _ _); k_dflt (refine' r_has ?zqB ?zqF ?zqX ?zqT ?zqhk ?zqNN ?zqhoff ?zqhd ?zqho ?zql1 ?zql2 ?zqo1 ?zqo2 ?zqo3 ?zqR ?zqp1 ?zqp2 ?zqle ?zqhin ?zqdp ?zqun ?_; (case zqB => k_asm); (case zqF => k_asm); (case zqX => k_asm); (case zqT => k_asm); (case zqhk => first | rfl | assumption); (case zqNN => first | exact n_split0 (by k_asm) | exact n_split1 (by k_asm) | exact n_split2 (by k_asm) | exact n_split3 (by k_asm) | exact n_split4 (by k_asm) | exact n_split5 (by k_asm) | exact n_split6 (by k_asm) | exact n_split7 (by k_asm) | exact n_split8 (by k_asm) | exact n_split9 (by k_asm) | exact n_split10 (by k_asm) | exact n_split11 (by k_asm) | exact n_split12 (by k_asm) | exact n_split13 (by k_asm) | exact n_split14 (by k_asm)); (case zqR => assumption); (case zqhd => assumption); (case zqho => assumption); (case zqhoff => refine hoff_of ?_; simp only [hoffB, hoffR, and_true]; omega); (case zql1 => assumption); (case zql2 => assumption); (case zqo1 => first | assumption | omega); (case zqo2 => first | assumption | omega); (case zqo3 => first | assumption | omega); (case zqp1 => omega); (case zqp2 => omega); (case zqle => first | assumption | omega); (case zqhin => first | assumption | exact rfl | omega); (case zqdp => ktr_room); (case zqun => ktr_units)); intro h9 tk9 F9 N9; (try simp only [List.append_nil, List.cons_append, List.nil_append] at N9); (try dsimp only); (try k_fold)))
local macro_rules | `(tactic| walk_at "call ref") => `(tactic| (k_here; (try dsimp only [List.nil_append, List.cons_append]); (with_reducible show wpAny _ _ (call (Value.ref _) [Value.ref _, Value.int _ _]) _ _ _); k_dflt (refine' r_hasnt ?zqB ?zqF ?zqX ?zqT ?zqhk ?zqNN ?zqhoff ?zqhd ?zqho ?zql1 ?zql2 ?zqo1 ?zqo2 ?zqo3 ?zqR ?zqp1 ?zqp2 ?zqle ?zqhout ?zqdp ?zqun ?_; (case zqB => k_asm); (case zqF => k_asm); (case zqX => k_asm); (case zqT => k_asm); (case zqhk => first | rfl | assumption); (case zqNN => first | exact n_split0 (by k_asm) | exact n_split1 (by k_asm) | exact n_split2 (by k_asm) | exact n_split3 (by k_asm) | exact n_split4 (by k_asm) | exact n_split5 (by k_asm) | exact n_split6 (by k_asm) | exact n_split7 (by k_asm) | exact n_split8 (by k_asm) | exact n_split9 (by k_asm) | exact n_split10 (by k_asm) | exact n_split11 (by k_asm) | exact n_split12 (by k_asm) | exact n_split13 (by k_asm) | exact n_split14 (by k_asm)); (case zqR => assumption); (case zqhd => assumption); (case zqho => assumption); (case zqhoff => refine hoff_of ?_; simp only [hoffB, hoffR, and_true]; omega); (case zql1 => assumption); (case zql2 => assumption); (case zqo1 => first | assumption | omega); (case zqo2 => first | assumption | omega); (case zqo3 => first | assumption | omega); (case zqp1 => omega); (case zqp2 => omega); (case zqle => first | assumption | omega); (case zqhout => first | assumption | exact rfl | omega); (case zqdp => ktr_room); (case zqun => ktr_units)); intro h9 tk9 F9 N9; (try simp only [List.append_nil, List.cons_append, List.nil_append] at N9); (try dsimp only); (try k_fold)))
local macro_rules | `(tactic| walk_at "call ref") => `(tactic| (k_here; (try dsimp only [List.nil_append, List.cons_append]); (with_reducible show wpAny _ _ (call (Value.ref _) [Value.ref _]) _ _ _); k_dflt (refine' r_len ?zqB ?zqF ?zqX ?zqT ?zqhk ?zqNN ?zqhoff ?zqhd ?zqho ?zql1 ?zql2 ?zqo1 ?zqo2 ?zqo3 ?zqR ?zqp1 ?zqp2 ?zqle  ?zqdp ?zqun ?_; (case zqB => k_asm); (case zqF => k_asm); (case zqX => k_asm); (case zqT => k_asm); (case zqhk => first | rfl | assumption); (case zqNN => first | exact n_split0 (by k_asm) | exact n_split1 (by k_asm) | exact n_split2 (by k_asm) | exact n_split3 (by k_asm) | exact n_split4 (by k_asm) | exact n_split5 (by k_asm) | exact n_split6 (by k_asm) | exact n_split7 (by k_asm) | exact n_split8 (by k_asm) | exact n_split9 (by k_asm) | exact n_split10 (by k_asm) | exact n_split11 (by k_asm) | exact n_split12 (by k_asm) | exact n_split13 (by k_asm) | exact n_split14 (by k_asm)); (case zqR => assumption); (case zqhd => assumption); (case zqho => assumption); (case zqhoff => refine hoff_of ?_; simp only [hoffB, hoffR, and_true]; omega); (case zql1 => assumption); (case zql2 => assumption); (case zqo1 => first | assumption | omega); (case zqo2 => first | assumption | omega); (case zqo3 => first | assumption | omega); (case zqp1 => omega); (case zqp2 => omega); (case zqle => first | assumption | omega); (case zqdp => ktr_room); (case zqun => ktr_units)); intro h9 tk9 t9 F9 N9; (try simp only [List.append_nil, List.cons_append, List.nil_append] at N9); (try (refine lenBack_ ⟨by omega, by omega⟩ ?_)); (try dsimp only); (try k_fold)))
local macro_rules | `(tactic| walk_at "call ref") => `(tactic| (k_here; (try dsimp only [List.nil_append, List.cons_append]); (with_reducible show wpAny _ _ (call (Value.ref _) [Value.ref _, Value.int _ _]) _ _ _); k_dflt (refine' r_get ?zqB ?zqF ?zqX ?zqT ?zqhk ?zqNN ?zqhoff ?zqhd ?zqho ?zql1 ?zql2 ?zqo1 ?zqo2 ?zqo3 ?zqR ?zqp1 ?zqp2 ?zqle ?zqhin ?zqdp ?zqun ?_; (case zqB => k_asm); (case zqF => k_asm); (case zqX => k_asm); (case zqT => k_asm); (case zqhk => first | rfl | assumption); (case zqNN => first | exact n_split0 (by k_asm) | exact n_split1 (by k_asm) | exact n_split2 (by k_asm) | exact n_split3 (by k_asm) | exact n_split4 (by k_asm) | exact n_split5 (by k_asm) | exact n_split6 (by k_asm) | exact n_split7 (by k_asm) | exact n_split8 (by k_asm) | exact n_split9 (by k_asm) | exact n_split10 (by k_asm) | exact n_split11 (by k_asm) | exact n_split12 (by k_asm) | exact n_split13 (by k_asm) | exact n_split14 (by k_asm)); (case zqR => assumption); (case zqhd => assumption); (case zqho => assumption); (case zqhoff => refine hoff_of ?_; simp only [hoffB, hoffR, and_true]; omega); (case zql1 => assumption); (case zql2 => assumption); (case zqo1 => first | assumption | omega); (case zqo2 => first | assumption | omega); (case zqo3 => first | assumption | omega); (case zqp1 => omega); (case zqp2 => omega); (case zqle => first | assumption | omega); (case zqhin => first | assumption | exact rfl | omega); (case zqdp => ktr_room); (case zqun => ktr_units)); intro h9 tk9 tv9 oo9 O9 F9 N9 J9 R9 le9; (try simp only [List.append_nil, List.cons_append, List.nil_append] at N9); (try dsimp only); (try k_fold)))
local macro_rules | `(tactic| walk_at "call ref") => `(tactic| (k_here; (try dsimp only [List.nil_append, List.cons_append]); (with_reducible show wpAny _ _ (call (Value.ref _) [Value.ref _, Value.int _ _, _]) _ _ _); k_dflt (refine' r_popin ?zqB ?zqF ?zqX ?zqT ?zqhk ?zqNN ?zqhoff ?zqhd ?zqho ?zql1 ?zql2 ?zqo1 ?zqo2 ?zqo3 ?zqR ?zqp1 ?zqp2 ?zqle ?zqhin ?zqdp ?zqun ?_; (case zqB => k_asm); (case zqF => k_asm); (case zqX => k_asm); (case zqT => k_asm); (case zqhk => first | rfl | assumption); (case zqNN => first | exact n_split0 (by k_asm) | exact n_split1 (by k_asm) | exact n_split2 (by k_asm) | exact n_split3 (by k_asm) | exact n_split4 (by k_asm) | exact n_split5 (by k_asm) | exact n_split6 (by k_asm) | exact n_split7 (by k_asm) | exact n_split8 (by k_asm) | exact n_split9 (by k_asm) | exact n_split10 (by k_asm) | exact n_split11 (by k_asm) | exact n_split12 (by k_asm) | exact n_split13 (by k_asm) | exact n_split14 (by k_asm)); (case zqR => assumption); (case zqhd => assumption); (case zqho => assumption); (case zqhoff => refine hoff_of ?_; simp only [hoffB, hoffR, and_true]; omega); (case zql1 => assumption); (case zql2 => assumption); (case zqo1 => first | assumption | omega); (case zqo2 => first | assumption | omega); (case zqo3 => first | assumption | omega); (case zqp1 => omega); (case zqp2 => omega); (case zqle => first | assumption | omega); (case zqhin => first | assumption | exact rfl | omega); (case zqdp => ktr_room); (case zqun => ktr_units)); intro h9 tk9 tv9 od9 oo9 t9 D9 O9 F9 N9 I9 J9 R9 le9; (try simp only [List.append_nil, List.cons_append, List.nil_append] at N9); (try dsimp only); (try k_fold)))
local macro_rules | `(tactic| walk_at "call ref") => `(tactic| (k_here; (try dsimp only [List.nil_append, List.cons_append]); (with_reducible show wpAny _ _ (call (Value.ref _) [Value.ref _, Value.int _ _]) _ _ _); k_dflt (refine' r_popin1 ?zqB ?zqF ?zqX ?zqT ?zqhk ?zqNN ?zqhoff ?zqhd ?zqho ?zql1 ?zql2 ?zqo1 ?zqo2 ?zqo3 ?zqR ?zqp1 ?zqp2 ?zqle ?zqhin ?zqdp ?zqun ?_; (case zqB => k_asm); (case zqF => k_asm); (case zqX => k_asm); (case zqT => k_asm); (case zqhk => first | rfl | assumption); (case zqNN => first | exact n_split0 (by k_asm) | exact n_split1 (by k_asm) | exact n_split2 (by k_asm) | exact n_split3 (by k_asm) | exact n_split4 (by k_asm) | exact n_split5 (by k_asm) | exact n_split6 (by k_asm) | exact n_split7 (by k_asm) | exact n_split8 (by k_asm) | exact n_split9 (by k_asm) | exact n_split10 (by k_asm) | exact n_split11 (by k_asm) | exact n_split12 (by k_asm) | exact n_split13 (by k_asm) | exact n_split14 (by k_asm)); (case zqR => assumption); (case zqhd => assumption); (case zqho => assumption); (case zqhoff => refine hoff_of ?_; simp only [hoffB, hoffR, and_true]; omega); (case zql1 => assumption); (case zql2 => assumption); (case zqo1 => first | assumption | omega); (case zqo2 => first | assumption | omega); (case zqo3 => first | assumption | omega); (case zqp1 => omega); (case zqp2 => omega); (case zqle => first | assumption | omega); (case zqhin => first | assumption | exact rfl | omega); (case zqdp => ktr_room); (case zqun => ktr_units)); intro h9 tk9 tv9 od9 oo9 t9 D9 O9 F9 N9 I9 J9 R9 le9; (try simp only [List.append_nil, List.cons_append, List.nil_append] at N9); (try dsimp only); (try k_fold)))
local macro_rules | `(tactic| walk_at "call ref") => `(tactic| (k_here; (try dsimp only [List.nil_append, List.cons_append]); (with_reducible show wpAny _ _ (call (Value.ref _) [Value.ref _, Value.int _ _, Value.none]) _ _ _); k_dflt (refine' r_popout ?zqB ?zqF ?zqX ?zqT ?zqhk ?zqNN ?zqhoff ?zqhd ?zqho ?zql1 ?zql2 ?zqo1 ?zqo2 ?zqo3 ?zqR ?zqp1 ?zqp2 ?zqle ?zqhout ?zqdp ?zqun ?_; (case zqB => k_asm); (case zqF => k_asm); (case zqX => k_asm); (case zqT => k_asm); (case zqhk => first | rfl | assumption); (case zqNN => first | exact n_split0 (by k_asm) | exact n_split1 (by k_asm) | exact n_split2 (by k_asm) | exact n_split3 (by k_asm) | exact n_split4 (by k_asm) | exact n_split5 (by k_asm) | exact n_split6 (by k_asm) | exact n_split7 (by k_asm) | exact n_split8 (by k_asm) | exact n_split9 (by k_asm) | exact n_split10 (by k_asm) | exact n_split11 (by k_asm) | exact n_split12 (by k_asm) | exact n_split13 (by k_asm) | exact n_split14 (by k_asm)); (case zqR => assumption); (case zqhd => assumption); (case zqho => assumption); (case zqhoff => refine hoff_of ?_; simp only [hoffB, hoffR, and_true]; omega); (case zql1 => assumption); (case zql2 => assumption); (case zqo1 => first | assumption | omega); (case zqo2 => first | assumption | omega); (case zqo3 => first | assumption | omega); (case zqp1 => omega); (case zqp2 => omega); (case zqle => first | assumption | omega); (case zqhout => first | assumption | exact rfl | omega); (case zqdp => ktr_room); (case zqun => ktr_units)); intro h9 tk9 F9 N9; (try simp only [List.append_nil, List.cons_append, List.nil_append] at N9); (try dsimp only); (try k_fold)))
local macro_rules | `(tactic| walk_at "call ref") => `(tactic| (k_here; (try dsimp only [List.nil_append, List.cons_append]); (with_reducible show wpAny _ _ (call (Value.ref _) [Value.ref _, Value.int _ _, Value.str _ _]) _ _ _); k_dflt (refine' r_popoutS ?zqB ?zqF ?zqX ?zqT ?zqhk ?zqNN ?zqhoff ?zqhd ?zqho ?zql1 ?zql2 ?zqo1 ?zqo2 ?zqo3 ?zqR ?zqp1 ?zqp2 ?zqle ?zqhout ?zqdp ?zqun ?_; (case zqB => k_asm); (case zqF => k_asm); (case zqX => k_asm); (case zqT => k_asm); (case zqhk => first | rfl | assumption); (case zqNN => first | exact n_split0 (by k_asm) | exact n_split1 (by k_asm) | exact n_split2 (by k_asm) | exact n_split3 (by k_asm) | exact n_split4 (by k_asm) | exact n_split5 (by k_asm) | exact n_split6 (by k_asm) | exact n_split7 (by k_asm) | exact n_split8 (by k_asm) | exact n_split9 (by k_asm) | exact n_split10 (by k_asm) | exact n_split11 (by k_asm) | exact n_split12 (by k_asm) | exact n_split13 (by k_asm) | exact n_split14 (by k_asm)); (case zqR => assumption); (case zqhd => assumption); (case zqho => assumption); (case zqhoff => refine hoff_of ?_; simp only [hoffB, hoffR, and_true]; omega); (case zql1 => assumption); (case zql2 => assumption); (case zqo1 => first | assumption | omega); (case zqo2 => first | assumption | omega); (case zqo3 => first | assumption | omega); (case zqp1 => omega); (case zqp2 => omega); (case zqle => first | assumption | omega); (case zqhout => first | assumption | exact rfl | omega); (case zqdp => ktr_room); (case zqun => ktr_units)); intro h9 tk9 F9 N9; (try simp only [List.append_nil, List.cons_append, List.nil_append] at N9); (try dsimp only); (try k_fold)))
local macro_rules | `(tactic| walk_at "call ref") => `(tactic| (k_here; (try dsimp only [List.nil_append, List.cons_append]); (with_reducible show wpAny _ _ (call (Value.ref _) [Value.ref _]) _ _ _); k_dflt (refine' r_clear ?zqB ?zqF ?zqX ?zqT ?zqhk ?zqNN ?zqhoff ?zqhd ?zqho ?zql1 ?zql2 ?zqo1 ?zqo2 ?zqo3 ?zqR ?zqp1 ?zqp2 ?zqle  ?zqdp ?zqun ?_; (case zqB => k_asm); (case zqF => k_asm); (case zqX => k_asm); (case zqT => k_asm); (case zqhk => first | rfl | assumption); (case zqNN => first | exact n_split0 (by k_asm) | exact n_split1 (by k_asm) | exact n_split2 (by k_asm) | exact n_split3 (by k_asm) | exact n_split4 (by k_asm) | exact n_split5 (by k_asm) | exact n_split6 (by k_asm) | exact n_split7 (by k_asm) | exact n_split8 (by k_asm) | exact n_split9 (by k_asm) | exact n_split10 (by k_asm) | exact n_split11 (by k_asm) | exact n_split12 (by k_asm) | exact n_split13 (by k_asm) | exact n_split14 (by k_asm)); (case zqR => assumption); (case zqhd => assumption); (case zqho => assumption); (case zqhoff => refine hoff_of ?_; simp only [hoffB, hoffR, and_true]; omega); (case zql1 => assumption); (case zql2 => assumption); (case zqo1 => first | assumption | omega); (case zqo2 => first | assumption | omega); (case zqo3 => first | assumption | omega); (case zqp1 => omega); (case zqp2 => omega); (case zqle => first | assumption | omega); (case zqdp => ktr_room); (case zqun => ktr_units)); intro h9 tk9 od9 oo9 t9 F9 N9 I9 J9 R9; (try simp only [List.append_nil, List.cons_append, List.nil_append] at N9); (try dsimp only); (try k_fold)))
local macro_rules | `(tactic| walk_at "call ref") => `(tactic| (k_here; (try dsimp only [List.nil_append, List.cons_append]); (with_reducible show wpAny _ _ (call (Value.ref _) [Value.ref _]) _ _ _); k_dflt (refine' r_popitem ?zqB ?zqF ?zqX ?zqT ?zqhk ?zqNN ?zqhoff ?zqhd ?zqho ?zql1 ?zql2 ?zqo1 ?zqo2 ?zqo3 ?zqR ?zqp1 ?zqp2 ?zqle ?zqhA ?zqdp ?zqun ?_; (case zqB => k_asm); (case zqF => k_asm); (case zqX => k_asm); (case zqT => k_asm); (case zqhk => first | rfl | assumption); (case zqNN => first | exact n_split0 (by k_asm) | exact n_split1 (by k_asm) | exact n_split2 (by k_asm) | exact n_split3 (by k_asm) | exact n_split4 (by k_asm) | exact n_split5 (by k_asm) | exact n_split6 (by k_asm) | exact n_split7 (by k_asm) | exact n_split8 (by k_asm) | exact n_split9 (by k_asm) | exact n_split10 (by k_asm) | exact n_split11 (by k_asm) | exact n_split12 (by k_asm) | exact n_split13 (by k_asm) | exact n_split14 (by k_asm)); (case zqR => assumption); (case zqhd => assumption); (case zqho => assumption); (case zqhoff => refine hoff_of ?_; simp only [hoffB, hoffR, and_true]; omega); (case zql1 => assumption); (case zql2 => assumption); (case zqo1 => first | assumption | omega); (case zqo2 => first | assumption | omega); (case zqo3 => first | assumption | omega); (case zqp1 => omega); (case zqp2 => omega); (case zqle => first | assumption | omega); (case zqhA => first | assumption | exact rfl | omega); (case zqdp => ktr_room); (case zqun => ktr_units)); intro h9 tk9 od9 oo9 t9 D9 O9 ta9 tk9 tv9 F9 N9 I9 J9 R9 le9 V9 Z9; (try simp only [List.append_nil, List.cons_append, List.nil_append] at N9); (simp only [List.forall_mem_cons, List.not_mem_nil, false_implies, implies_true, and_true] at Z9); (try dsimp only); (try k_fold)))
local macro_rules | `(tactic| walk_at "call ref") => `(tactic| (k_here; (try dsimp only [List.nil_append, List.cons_append]); (with_reducible show wpAny _ _ (call (Value.ref _) [Value.ref _, Value.int _ _, Value.int _ _]) _ _ _); k_dflt (refine' l_set ?zqB ?zqF ?zqXB ?zqTB ?zqDD ?zqhk ?zqNN ?zqhoff ?zqhd ?zqho ?zql1 ?zql2 ?zqo1 ?zqo2 ?zqo3 ?zqR ?zqp1 ?zqp2 ?zqle rfl  ?zqdp ?zqun ?_; (case zqB => k_asm); (case zqF => k_asm); (case zqXB => k_asm); (case zqTB => k_asm); (case zqDD => exact ktsDicts_nil); (case zqhk => first | rfl | assumption); (case zqNN => first | exact n_split0 (by k_asm) | exact n_split1 (by k_asm) | exact n_split2 (by k_asm) | exact n_split3 (by k_asm) | exact n_split4 (by k_asm) | exact n_split5 (by k_asm) | exact n_split6 (by k_asm) | exact n_split7 (by k_asm) | exact n_split8 (by k_asm) | exact n_split9 (by k_asm) | exact n_split10 (by k_asm) | exact n_split11 (by k_asm) | exact n_split12 (by k_asm) | exact n_split13 (by k_asm) | exact n_split14 (by k_asm)); (case zqR => assumption); (case zqhd => assumption); (case zqho => assumption); (case zqhoff => refine hoff_of ?_; simp only [hoffB, hoffR, and_true]; omega); (case zql1 => assumption); (case zql2 => assumption); (case zqo1 => first | assumption | omega); (case zqo2 => first | assumption | omega); (case zqo3 => first | assumption | omega); (case zqp1 => omega); (case zqp2 => omega); (case zqle => first | assumption | omega); (case zqdp => ktr_room); (case zqun => ktr_units)); intro h9 tk9 od9 oo9 t9 D9 O9 F9 N9 I9 J9 R9 le9; (try simp only [List.append_nil, List.cons_append, List.nil_append] at N9); (try dsimp only); (try k_fold)))
local macro_rules | `(tactic| walk_at "call ref") => `(tactic| (k_here; (try dsimp only [List.nil_append, List.cons_append]); (with_reducible show wpAny _ _ (call (Value.ref _) [Value.ref _, Value.ref _, Value.int _ _, Value.int _ _, Value.int _ _]) _ _ _); k_dflt (refine' l_front2 ?zqB ?zqF ?zqXB ?zqTB ?zqDD ?zqhk ?zqNN ?zqhoff ?zqhd ?zqho ?zql1 ?zql2 ?zqo1 ?zqo2 ?zqo3 ?zqR ?zqp1 ?zqp2 ?zqle ?zqhdb ?zqhob ?zql1b ?zql2b ?zqo1b ?zqo2b ?zqo3b ?zqRb ?zqp1b ?zqp2b ?zqleb ?zqo4 rfl ?zqdp ?zqun ?_; (case zqB => k_asm); (case zqF => k_asm); (case zqXB => k_asm); (case zqTB => k_asm); (case zqDD => exact ktsDicts_nil); (case zqhk => first | rfl | assumption); (case zqNN => first | exact n_twoA1_0 (by k_asm) | exact n_twoB1_0 (by k_asm) | exact n_twoA0_6 (by k_asm) | exact n_twoB0_6 (by k_asm) | exact n_twoA0_0 (by k_asm) | exact n_twoB0_0 (by k_asm) | exact n_twoA2_0 (by k_asm) | exact n_twoB2_0 (by k_asm)); (case zqR => assumption); (case zqRb => assumption); (case zqhd => assumption); (case zqho => assumption); (case zqhdb => assumption); (case zqhob => assumption); (case zqhoff => refine hoff_of ?_; simp only [hoffB, hoffR, and_true]; omega); (case zql1 => assumption); (case zql2 => assumption); (case zqo1 => first | assumption | omega); (case zqo2 => first | assumption | omega); (case zqo3 => first | assumption | omega); (case zqp1 => omega); (case zqp2 => omega); (case zqle => first | assumption | omega); (case zql1b => assumption); (case zql2b => assumption); (case zqo1b => first | assumption | omega); (case zqo2b => first | assumption | omega); (case zqo3b => first | assumption | omega); (case zqp1b => omega); (case zqp2b => omega); (case zqleb => first | assumption | omega); (case zqo4 => first | assumption | omega); (case zqdp => ktr_room); (case zqun => ktr_units)); intro h9 tk9 od9 oo9 t29 D9 O9 od8 oo8 t28 D8 O8 F9 N9 I9 J9 I8 J8 R9 le9 R8 le8; (try simp only [List.append_nil, List.cons_append, List.nil_append] at N9); (try dsimp only); (try k_fold)))
local macro_rules | `(tactic| walk_at "compareOp Eq int int") => `(tactic| first | (with_reducible refine eq_yes (by omega) ?_) | (with_reducible refine eq_no (by omega) ?_))
local macro_rules | `(tactic| walk_at "compareOp NotEq int int") => `(tactic| (with_reducible refine ne_same ?_))
local macro_rules | `(tactic| walk_at "getItem ref int") => `(tactic| (k_here; k_dflt (refine' x_getItem ?zqN ?zqp ?zqd ?zqv ?_; (case zqN => k_asm); (case zqp => k_mem); (case zqd => assumption); (case zqv => exact valueAt_stored_self); k_whole)))
-- part path_x
section
section
variable {w : World} {mean : ExcName → Option Value} {mg mb : Str → Option Value} {h₀ : Heap} {L fa : Addr} {ccd : Value} {s : Shared} {Q : Flow → Shared → Prop} {E : Value → Shared → Prop}
variable {params : Arguments} {body : List Stmt} {scope : Scope} {kd ln I : Addr} {okd it : Obj} {K : List (Int × Value)} {vs : List Value} {ns : List Int} {t1 t2 tk t4 t5 : Tok} {rest : Str → Option Value} {k kind key : Int} {tail : List Stmt}
variable {c1 dx1 da1 oa1 : Addr} {od1 oo1 : Obj} {A1 : List (Int × Int)} {D1 O1 : List (Int × Value)} {u1 v1 w1 x1 y1 z1 : Tok}
variable {c2 dx2 da2 oa2 : Addr} {od2 oo2 : Obj} {A2 : List (Int × Int)} {D2 O2 : List (Int × Value)} {u2 v2 w2 x2 y2 z2 : Tok}
variable {c3 dx3 da3 oa3 : Addr} {od3 oo3 : Obj} {A3 : List (Int × Int)} {D3 O3 : List (Int × Value)} {u3 v3 w3 x3 y3 z3 : Tok}
variable {p1 p2 p3 : Nat} {v : Int}
variable (lit : fdOf (stFn 35 none) = some (params, body, scope)) (B : Below callerA h₀ [] h₀) (F : Fr h₀ L s.heap (fun y => if y = Str.ofString "key" then some (.int key t4) else if y = Str.ofString "kind" then some (.int kind t5) else if y = Str.ofString "k" then some (.int k tk) else mI kd c1 c2 c3 ln p1 p2 t1 t2 rest y)) (X : (KF w.params).In h₀) (T : Top qv (looseW qv lo) mean mg mb h₀)
  (N : News h₀ L s.heap ((I, it) :: wL kd okd (cL c3 dx3 da3 oa3 (dictOf (cEs w.params da3 oa3 ((A3).length : Int) (p3 : Int) u3 v3 w3 x3 y3 z3) 4) od3 oo3) (cL c2 dx2 da2 oa2 (dictOf (cEs w.params da2 oa2 ((A2).length : Int) (p2 : Int) u2 v2 w2 x2 y2 z2) 4) od2 oo2) (cL c1 dx1 da1 oa1 (dictOf (cEs w.params da1 oa1 ((A1).length : Int) (p1 : Int) u1 v1 w1 x1 y1 z1) 4) od1 oo1) ln vs))
  (hd1 : od1.IsDictOf (intKind PW w) D1) (ho1 : oo1.IsDictOf (intKind PW w) O1) (la1 : (da1 == sysModules) = false) (lb1 : (oa1 == sysModules) = false) (a1 : @LT.lt Nat _ dx1 c1) (b1 : @LT.lt Nat _ c1 da1) (e1 : @LT.lt Nat _ da1 oa1) (R1 : Rel A1 D1 O1) (P1 : 1 ≤ p1) (Q1 : p1 ≤ 6) (le1 : A1.length ≤ p1)
  (hd2 : od2.IsDictOf (intKind PW w) D2) (ho2 : oo2.IsDictOf (intKind PW w) O2) (la2 : (da2 == sysModules) = false) (lb2 : (oa2 == sysModules) = false) (a2 : @LT.lt Nat _ dx2 c2) (b2 : @LT.lt Nat _ c2 da2) (e2 : @LT.lt Nat _ da2 oa2) (R2 : Rel A2 D2 O2) (P2 : 1 ≤ p2) (Q2 : p2 ≤ 6) (le2 : A2.length ≤ p2)
  (hd3 : od3.IsDictOf (intKind PW w) D3) (ho3 : oo3.IsDictOf (intKind PW w) O3) (la3 : (da3 == sysModules) = false) (lb3 : (oa3 == sysModules) = false) (a3 : @LT.lt Nat _ dx3 c3) (b3 : @LT.lt Nat _ c3 da3) (e3 : @LT.lt Nat _ da3 oa3) (R3 : Rel A3 D3 O3) (P3 : 1 ≤ p3) (Q3 : p3 ≤ 6) (le3 : A3.length ≤ p3)
  (hkd : okd.IsDictOf (intKind PW w) K) (lk : (kd == sysModules) = false) (zk : K.length ≤ 100) (hv : IntsAre vs ns) (f0 : @LT.lt Nat _ ln dx1) (f1 : @LT.lt Nat _ oa1 dx2) (f2 : @LT.lt Nat _ oa2 dx3) (f3 : @LT.lt Nat _ oa3 kd) (f4 : @LT.lt Nat _ kd I)
  (T3 : Tan A1 A2 A3 p1 p2) (K3 : Kn A3 K) (p12 : p3 = p1 + p2) (k0 : 2 ≤ k) (k1 : k + 1 < ns.length) (k2 : ns.length ≤ 40)
  (hcont : ∀ h' tk', Mid w h₀ L I it kd ln vs p1 p2 p3 t1 t2 c1 dx1 da1 oa1 c2 dx2 da2 oa2 c3 dx3 da3 oa3 u1 v1 x1 y1 z1 u2 v2 x2 y2 z2 u3 v3 x3 y3 z3 (K.length + 1) { s with heap := h', toks := tk' } → wpAny (model PW w) (callerA.deeper (envOf (Str.ofString "law") scope L fa ccd)) (execs tail (envOf (Str.ofString "law") scope L fa ccd)) Q E { s with heap := h', toks := tk' })
include lit B F X T N hd1 ho1 la1 lb1 a1 b1 e1 R1 P1 Q1 le1 hd2 ho2 la2 lb2 a2 b2 e2 R2 P2 Q2 le2 hd3 ho3 la3 lb3 a3 b3 e3 R3 P3 Q3 le3 hkd lk zk hv f0 f1 f2 f3 f4 T3 K3 p12 k0 k1 k2 hcont
theorem path_x (hk : kind < 6) (hin : key ∈ ks A1) (h3 : (key, v) ∈ A3) :
    wpAny (model PW w) (callerA.deeper (envOf (Str.ofString "law") scope L fa ccd)) (execs ((forB body).getD 2 (.Pass ⟨0, 0, 0, 0⟩) :: tail) (envOf (Str.ofString "law") scope L fa ccd)) Q E s := by
  have e := lit_in lit (by rfl)
  cases e
  clear lit
  show wpAny _ _ (execs (Stmt.If _ _ _ _ :: tail) _) _ _ _
  unfold mI at F
  simp only [wL, cL, List.cons_append, List.nil_append] at N
  have i3 : key ∈ ks A3 := List.mem_map.mpr ⟨_, h3, rfl⟩
  have h1 := T3.valA h3 hin
  obtain ⟨tK, hK⟩ := K3 _ h3
  dsimp only at hK
  k_steps
  all_goals (first | (refine' hcont _ _ ⟨_, _, _, _, _, _, _, _, _, _, _, _, _, _, _, _, _, _, _, _, _, T3.hitA hin v, by assumption, by assumption, by assumption, K3.got h3, mI_in (by assumption) rfl rfl rfl rfl rfl rfl rfl, n_sub (by assumption) (by simp only [wL, cL, List.cons_append, List.nil_append]; repeat' first | exact List.forall_mem_nil _ | (refine List.forall_mem_cons.mpr ⟨?_, ?_⟩; (focus kcj_m))), by assumption, by assumption, by assumption, by assumption, by assumption, by assumption, by assumption, ?_⟩; all_goals (first | omega | exact stored_len | exact Nat.le_succ _); done) | w_report)
end
end
-- part path_y
section
section
variable {w : World} {mean : ExcName → Option Value} {mg mb : Str → Option Value} {h₀ : Heap} {L fa : Addr} {ccd : Value} {s : Shared} {Q : Flow → Shared → Prop} {E : Value → Shared → Prop}
variable {params : Arguments} {body : List Stmt} {scope : Scope} {kd ln I : Addr} {okd it : Obj} {K : List (Int × Value)} {vs : List Value} {ns : List Int} {t1 t2 tk t4 t5 : Tok} {rest : Str → Option Value} {k kind key : Int} {tail : List Stmt}
variable {c1 dx1 da1 oa1 : Addr} {od1 oo1 : Obj} {A1 : List (Int × Int)} {D1 O1 : List (Int × Value)} {u1 v1 w1 x1 y1 z1 : Tok}
variable {c2 dx2 da2 oa2 : Addr} {od2 oo2 : Obj} {A2 : List (Int × Int)} {D2 O2 : List (Int × Value)} {u2 v2 w2 x2 y2 z2 : Tok}
variable {c3 dx3 da3 oa3 : Addr} {od3 oo3 : Obj} {A3 : List (Int × Int)} {D3 O3 : List (Int × Value)} {u3 v3 w3 x3 y3 z3 : Tok}
variable {p1 p2 p3 : Nat} {v : Int}
variable (lit : fdOf (stFn 35 none) = some (params, body, scope)) (B : Below callerA h₀ [] h₀) (F : Fr h₀ L s.heap (fun y => if y = Str.ofString "key" then some (.int key t4) else if y = Str.ofString "kind" then some (.int kind t5) else if y = Str.ofString "k" then some (.int k tk) else mI kd c1 c2 c3 ln p1 p2 t1 t2 rest y)) (X : (KF w.params).In h₀) (T : Top qv (looseW qv lo) mean mg mb h₀)
  (N : News h₀ L s.heap ((I, it) :: wL kd okd (cL c3 dx3 da3 oa3 (dictOf (cEs w.params da3 oa3 ((A3).length : Int) (p3 : Int) u3 v3 w3 x3 y3 z3) 4) od3 oo3) (cL c2 dx2 da2 oa2 (dictOf (cEs w.params da2 oa2 ((A2).length : Int) (p2 : Int) u2 v2 w2 x2 y2 z2) 4) od2 oo2) (cL c1 dx1 da1 oa1 (dictOf (cEs w.params da1 oa1 ((A1).length : Int) (p1 : Int) u1 v1 w1 x1 y1 z1) 4) od1 oo1) ln vs))
  (hd1 : od1.IsDictOf (intKind PW w) D1) (ho1 : oo1.IsDictOf (intKind PW w) O1) (la1 : (da1 == sysModules) = false) (lb1 : (oa1 == sysModules) = false) (a1 : @LT.lt Nat _ dx1 c1) (b1 : @LT.lt Nat _ c1 da1) (e1 : @LT.lt Nat _ da1 oa1) (R1 : Rel A1 D1 O1) (P1 : 1 ≤ p1) (Q1 : p1 ≤ 6) (le1 : A1.length ≤ p1)
  (hd2 : od2.IsDictOf (intKind PW w) D2) (ho2 : oo2.IsDictOf (intKind PW w) O2) (la2 : (da2 == sysModules) = false) (lb2 : (oa2 == sysModules) = false) (a2 : @LT.lt Nat _ dx2 c2) (b2 : @LT.lt Nat _ c2 da2) (e2 : @LT.lt Nat _ da2 oa2) (R2 : Rel A2 D2 O2) (P2 : 1 ≤ p2) (Q2 : p2 ≤ 6) (le2 : A2.length ≤ p2)
  (hd3 : od3.IsDictOf (intKind PW w) D3) (ho3 : oo3.IsDictOf (intKind PW w) O3) (la3 : (da3 == sysModules) = false) (lb3 : (oa3 == sysModules) = false) (a3 : @LT.lt Nat _ dx3 c3) (b3 : @LT.lt Nat _ c3 da3) (e3 : @LT.lt Nat _ da3 oa3) (R3 : Rel A3 D3 O3) (P3 : 1 ≤ p3) (Q3 : p3 ≤ 6) (le3 : A3.length ≤ p3)
  (hkd : okd.IsDictOf (intKind PW w) K) (lk : (kd == sysModules) = false) (zk : K.length ≤ 100) (hv : IntsAre vs ns) (f0 : @LT.lt Nat _ ln dx1) (f1 : @LT.lt Nat _ oa1 dx2) (f2 : @LT.lt Nat _ oa2 dx3) (f3 : @LT.lt Nat _ oa3 kd) (f4 : @LT.lt Nat _ kd I)
  (T3 : Tan A1 A2 A3 p1 p2) (K3 : Kn A3 K) (p12 : p3 = p1 + p2) (k0 : 2 ≤ k) (k1 : k + 1 < ns.length) (k2 : ns.length ≤ 40)
  (hcont : ∀ h' tk', Mid w h₀ L I it kd ln vs p1 p2 p3 t1 t2 c1 dx1 da1 oa1 c2 dx2 da2 oa2 c3 dx3 da3 oa3 u1 v1 x1 y1 z1 u2 v2 x2 y2 z2 u3 v3 x3 y3 z3 (K.length + 1) { s with heap := h', toks := tk' } → wpAny (model PW w) (callerA.deeper (envOf (Str.ofString "law") scope L fa ccd)) (execs tail (envOf (Str.ofString "law") scope L fa ccd)) Q E { s with heap := h', toks := tk' })
include lit B F X T N hd1 ho1 la1 lb1 a1 b1 e1 R1 P1 Q1 le1 hd2 ho2 la2 lb2 a2 b2 e2 R2 P2 Q2 le2 hd3 ho3 la3 lb3 a3 b3 e3 R3 P3 Q3 le3 hkd lk zk hv f0 f1 f2 f3 f4 T3 K3 p12 k0 k1 k2 hcont
theorem path_y (hk : kind < 6) (hin : key ∈ ks A2) (h3 : (key, v) ∈ A3) :
    wpAny (model PW w) (callerA.deeper (envOf (Str.ofString "law") scope L fa ccd)) (execs ((forB body).getD 2 (.Pass ⟨0, 0, 0, 0⟩) :: tail) (envOf (Str.ofString "law") scope L fa ccd)) Q E s := by
  have e := lit_in lit (by rfl)
  cases e
  clear lit
  show wpAny _ _ (execs (Stmt.If _ _ _ _ :: tail) _) _ _ _
  unfold mI at F
  simp only [wL, cL, List.cons_append, List.nil_append] at N
  have i3 : key ∈ ks A3 := List.mem_map.mpr ⟨_, h3, rfl⟩
  have n1 := T3.apart hin
  have h2 := T3.valB h3 hin
  obtain ⟨tK, hK⟩ := K3 _ h3
  dsimp only at hK
  k_steps
  all_goals (first | (refine' hcont _ _ ⟨_, _, _, _, _, _, _, _, _, _, _, _, _, _, _, _, _, _, _, _, _, T3.hitB P1 P2 hin v, by assumption, by assumption, by assumption, K3.got h3, mI_in (by assumption) rfl rfl rfl rfl rfl rfl rfl, n_sub (by assumption) (by simp only [wL, cL, List.cons_append, List.nil_append]; repeat' first | exact List.forall_mem_nil _ | (refine List.forall_mem_cons.mpr ⟨?_, ?_⟩; (focus kcj_m))), by assumption, by assumption, by assumption, by assumption, by assumption, by assumption, by assumption, ?_⟩; all_goals (first | omega | exact stored_len | exact Nat.le_succ _); done) | w_report)
end
end
-- part path_z
section
section
variable {w : World} {mean : ExcName → Option Value} {mg mb : Str → Option Value} {h₀ : Heap} {L fa : Addr} {ccd : Value} {s : Shared} {Q : Flow → Shared → Prop} {E : Value → Shared → Prop}
variable {params : Arguments} {body : List Stmt} {scope : Scope} {kd ln I : Addr} {okd it : Obj} {K : List (Int × Value)} {vs : List Value} {ns : List Int} {t1 t2 tk t4 t5 : Tok} {rest : Str → Option Value} {k kind key : Int} {tail : List Stmt}
variable {c1 dx1 da1 oa1 : Addr} {od1 oo1 : Obj} {A1 : List (Int × Int)} {D1 O1 : List (Int × Value)} {u1 v1 w1 x1 y1 z1 : Tok}
variable {c2 dx2 da2 oa2 : Addr} {od2 oo2 : Obj} {A2 : List (Int × Int)} {D2 O2 : List (Int × Value)} {u2 v2 w2 x2 y2 z2 : Tok}
variable {c3 dx3 da3 oa3 : Addr} {od3 oo3 : Obj} {A3 : List (Int × Int)} {D3 O3 : List (Int × Value)} {u3 v3 w3 x3 y3 z3 : Tok}
variable {p1 p2 p3 : Nat} {v : Int}
variable (lit : fdOf (stFn 35 none) = some (params, body, scope)) (B : Below callerA h₀ [] h₀) (F : Fr h₀ L s.heap (fun y => if y = Str.ofString "key" then some (.int key t4) else if y = Str.ofString "kind" then some (.int kind t5) else if y = Str.ofString "k" then some (.int k tk) else mI kd c1 c2 c3 ln p1 p2 t1 t2 rest y)) (X : (KF w.params).In h₀) (T : Top qv (looseW qv lo) mean mg mb h₀)
  (N : News h₀ L s.heap ((I, it) :: wL kd okd (cL c3 dx3 da3 oa3 (dictOf (cEs w.params da3 oa3 ((A3).length : Int) (p3 : Int) u3 v3 w3 x3 y3 z3) 4) od3 oo3) (cL c2 dx2 da2 oa2 (dictOf (cEs w.params da2 oa2 ((A2).length : Int) (p2 : Int) u2 v2 w2 x2 y2 z2) 4) od2 oo2) (cL c1 dx1 da1 oa1 (dictOf (cEs w.params da1 oa1 ((A1).length : Int) (p1 : Int) u1 v1 w1 x1 y1 z1) 4) od1 oo1) ln vs))
  (hd1 : od1.IsDictOf (intKind PW w) D1) (ho1 : oo1.IsDictOf (intKind PW w) O1) (la1 : (da1 == sysModules) = false) (lb1 : (oa1 == sysModules) = false) (a1 : @LT.lt Nat _ dx1 c1) (b1 : @LT.lt Nat _ c1 da1) (e1 : @LT.lt Nat _ da1 oa1) (R1 : Rel A1 D1 O1) (P1 : 1 ≤ p1) (Q1 : p1 ≤ 6) (le1 : A1.length ≤ p1)
  (hd2 : od2.IsDictOf (intKind PW w) D2) (ho2 : oo2.IsDictOf (intKind PW w) O2) (la2 : (da2 == sysModules) = false) (lb2 : (oa2 == sysModules) = false) (a2 : @LT.lt Nat _ dx2 c2) (b2 : @LT.lt Nat _ c2 da2) (e2 : @LT.lt Nat _ da2 oa2) (R2 : Rel A2 D2 O2) (P2 : 1 ≤ p2) (Q2 : p2 ≤ 6) (le2 : A2.length ≤ p2)
  (hd3 : od3.IsDictOf (intKind PW w) D3) (ho3 : oo3.IsDictOf (intKind PW w) O3) (la3 : (da3 == sysModules) = false) (lb3 : (oa3 == sysModules) = false) (a3 : @LT.lt Nat _ dx3 c3) (b3 : @LT.lt Nat _ c3 da3) (e3 : @LT.lt Nat _ da3 oa3) (R3 : Rel A3 D3 O3) (P3 : 1 ≤ p3) (Q3 : p3 ≤ 6) (le3 : A3.length ≤ p3)
  (hkd : okd.IsDictOf (intKind PW w) K) (lk : (kd == sysModules) = false) (zk : K.length ≤ 100) (hv : IntsAre vs ns) (f0 : @LT.lt Nat _ ln dx1) (f1 : @LT.lt Nat _ oa1 dx2) (f2 : @LT.lt Nat _ oa2 dx3) (f3 : @LT.lt Nat _ oa3 kd) (f4 : @LT.lt Nat _ kd I)
  (T3 : Tan A1 A2 A3 p1 p2) (K3 : Kn A3 K) (p12 : p3 = p1 + p2) (k0 : 2 ≤ k) (k1 : k + 1 < ns.length) (k2 : ns.length ≤ 40)
  (hcont : ∀ h' tk', Mid w h₀ L I it kd ln vs p1 p2 p3 t1 t2 c1 dx1 da1 oa1 c2 dx2 da2 oa2 c3 dx3 da3 oa3 u1 v1 x1 y1 z1 u2 v2 x2 y2 z2 u3 v3 x3 y3 z3 (K.length + 1) { s with heap := h', toks := tk' } → wpAny (model PW w) (callerA.deeper (envOf (Str.ofString "law") scope L fa ccd)) (execs tail (envOf (Str.ofString "law") scope L fa ccd)) Q E { s with heap := h', toks := tk' })
include lit B F X T N hd1 ho1 la1 lb1 a1 b1 e1 R1 P1 Q1 le1 hd2 ho2 la2 lb2 a2 b2 e2 R2 P2 Q2 le2 hd3 ho3 la3 lb3 a3 b3 e3 R3 P3 Q3 le3 hkd lk zk hv f0 f1 f2 f3 f4 T3 K3 p12 k0 k1 k2 hcont
theorem path_z (hk : kind < 6) (n3 : key ∉ ks A3) :
    wpAny (model PW w) (callerA.deeper (envOf (Str.ofString "law") scope L fa ccd)) (execs ((forB body).getD 2 (.Pass ⟨0, 0, 0, 0⟩) :: tail) (envOf (Str.ofString "law") scope L fa ccd)) Q E s := by
  have e := lit_in lit (by rfl)
  cases e
  clear lit
  show wpAny _ _ (execs (Stmt.If _ _ _ _ :: tail) _) _ _ _
  unfold mI at F
  simp only [wL, cL, List.cons_append, List.nil_append] at N
  have n1 : key ∉ ks A1 := fun h => n3 (T3.mem.mpr (.inr h))
  have n2 : key ∉ ks A2 := fun h => n3 (T3.mem.mpr (.inl h))
  subst p12
  k_steps
  all_goals (first | (refine' hcont _ _ ⟨_, _, _, _, _, _, _, _, _, _, _, _, _, _, _, _, _, _, _, _, _, T3.new P1 P2 n3, by assumption, by assumption, by assumption, K3.set, mI_in (by assumption) rfl rfl rfl rfl rfl rfl rfl, n_sub (by assumption) (by simp only [wL, cL, List.cons_append, List.nil_append]; repeat' first | exact List.forall_mem_nil _ | (refine List.forall_mem_cons.mpr ⟨?_, ?_⟩; (focus kcj_m))), by assumption, by assumption, by assumption, by assumption, by assumption, by assumption, by assumption, ?_⟩; all_goals (first | omega | exact stored_len | exact Nat.le_succ _); done) | w_report)
end
end
-- part path_s
section
section
variable {w : World} {mean : ExcName → Option Value} {mg mb : Str → Option Value} {h₀ : Heap} {L fa : Addr} {ccd : Value} {s : Shared} {Q : Flow → Shared → Prop} {E : Value → Shared → Prop}
variable {params : Arguments} {body : List Stmt} {scope : Scope} {kd ln I : Addr} {okd it : Obj} {K : List (Int × Value)} {vs : List Value} {ns : List Int} {t1 t2 tk t4 t5 : Tok} {rest : Str → Option Value} {k kind key : Int} {tail : List Stmt}
variable {c1 dx1 da1 oa1 : Addr} {od1 oo1 : Obj} {A1 : List (Int × Int)} {D1 O1 : List (Int × Value)} {u1 v1 w1 x1 y1 z1 : Tok}
variable {c2 dx2 da2 oa2 : Addr} {od2 oo2 : Obj} {A2 : List (Int × Int)} {D2 O2 : List (Int × Value)} {u2 v2 w2 x2 y2 z2 : Tok}
variable {c3 dx3 da3 oa3 : Addr} {od3 oo3 : Obj} {A3 : List (Int × Int)} {D3 O3 : List (Int × Value)} {u3 v3 w3 x3 y3 z3 : Tok}
variable {p1 p2 p3 : Nat} {v : Int}
variable (lit : fdOf (stFn 35 none) = some (params, body, scope)) (B : Below callerA h₀ [] h₀) (F : Fr h₀ L s.heap (fun y => if y = Str.ofString "key" then some (.int key t4) else if y = Str.ofString "kind" then some (.int kind t5) else if y = Str.ofString "k" then some (.int k tk) else mI kd c1 c2 c3 ln p1 p2 t1 t2 rest y)) (X : (KF w.params).In h₀) (T : Top qv (looseW qv lo) mean mg mb h₀)
  (N : News h₀ L s.heap ((I, it) :: wL kd okd (cL c3 dx3 da3 oa3 (dictOf (cEs w.params da3 oa3 ((A3).length : Int) (p3 : Int) u3 v3 w3 x3 y3 z3) 4) od3 oo3) (cL c2 dx2 da2 oa2 (dictOf (cEs w.params da2 oa2 ((A2).length : Int) (p2 : Int) u2 v2 w2 x2 y2 z2) 4) od2 oo2) (cL c1 dx1 da1 oa1 (dictOf (cEs w.params da1 oa1 ((A1).length : Int) (p1 : Int) u1 v1 w1 x1 y1 z1) 4) od1 oo1) ln vs))
  (hd1 : od1.IsDictOf (intKind PW w) D1) (ho1 : oo1.IsDictOf (intKind PW w) O1) (la1 : (da1 == sysModules) = false) (lb1 : (oa1 == sysModules) = false) (a1 : @LT.lt Nat _ dx1 c1) (b1 : @LT.lt Nat _ c1 da1) (e1 : @LT.lt Nat _ da1 oa1) (R1 : Rel A1 D1 O1) (P1 : 1 ≤ p1) (Q1 : p1 ≤ 6) (le1 : A1.length ≤ p1)
  (hd2 : od2.IsDictOf (intKind PW w) D2) (ho2 : oo2.IsDictOf (intKind PW w) O2) (la2 : (da2 == sysModules) = false) (lb2 : (oa2 == sysModules) = false) (a2 : @LT.lt Nat _ dx2 c2) (b2 : @LT.lt Nat _ c2 da2) (e2 : @LT.lt Nat _ da2 oa2) (R2 : Rel A2 D2 O2) (P2 : 1 ≤ p2) (Q2 : p2 ≤ 6) (le2 : A2.length ≤ p2)
  (hd3 : od3.IsDictOf (intKind PW w) D3) (ho3 : oo3.IsDictOf (intKind PW w) O3) (la3 : (da3 == sysModules) = false) (lb3 : (oa3 == sysModules) = false) (a3 : @LT.lt Nat _ dx3 c3) (b3 : @LT.lt Nat _ c3 da3) (e3 : @LT.lt Nat _ da3 oa3) (R3 : Rel A3 D3 O3) (P3 : 1 ≤ p3) (Q3 : p3 ≤ 6) (le3 : A3.length ≤ p3)
  (hkd : okd.IsDictOf (intKind PW w) K) (lk : (kd == sysModules) = false) (zk : K.length ≤ 100) (hv : IntsAre vs ns) (f0 : @LT.lt Nat _ ln dx1) (f1 : @LT.lt Nat _ oa1 dx2) (f2 : @LT.lt Nat _ oa2 dx3) (f3 : @LT.lt Nat _ oa3 kd) (f4 : @LT.lt Nat _ kd I)
  (T3 : Tan A1 A2 A3 p1 p2) (K3 : Kn A3 K) (p12 : p3 = p1 + p2) (k0 : 2 ≤ k) (k1 : k + 1 < ns.length) (k2 : ns.length ≤ 40)
  (hcont : ∀ h' tk', Mid w h₀ L I it kd ln vs p1 p2 p3 t1 t2 c1 dx1 da1 oa1 c2 dx2 da2 oa2 c3 dx3 da3 oa3 u1 v1 x1 y1 z1 u2 v2 x2 y2 z2 u3 v3 x3 y3 z3 (K.length + 1) { s with heap := h', toks := tk' } → wpAny (model PW w) (callerA.deeper (envOf (Str.ofString "law") scope L fa ccd)) (execs tail (envOf (Str.ofString "law") scope L fa ccd)) Q E { s with heap := h', toks := tk' })
include lit B F X T N hd1 ho1 la1 lb1 a1 b1 e1 R1 P1 Q1 le1 hd2 ho2 la2 lb2 a2 b2 e2 R2 P2 Q2 le2 hd3 ho3 la3 lb3 a3 b3 e3 R3 P3 Q3 le3 hkd lk zk hv f0 f1 f2 f3 f4 T3 K3 p12 k0 k1 k2 hcont
theorem path_s (hk : kind = 6) (h2 : (key, v) ∈ A2) :
    wpAny (model PW w) (callerA.deeper (envOf (Str.ofString "law") scope L fa ccd)) (execs ((forB body).getD 2 (.Pass ⟨0, 0, 0, 0⟩) :: tail) (envOf (Str.ofString "law") scope L fa ccd)) Q E s := by
  have e := lit_in lit (by rfl)
  cases e
  clear lit
  show wpAny _ _ (execs (Stmt.If _ _ _ _ :: tail) _) _ _ _
  unfold mI at F
  simp only [wL, cL, List.cons_append, List.nil_append] at N
  have i2 : key ∈ ks A2 := List.mem_map.mpr ⟨_, h2, rfl⟩
  subst p12
  k_steps
  all_goals (first | (refine' hcont _ _ ⟨_, _, _, _, _, _, _, _, _, _, _, _, _, _, _, _, _, _, _, _, _, T3.setIn P1 P2 i2 k, by assumption, by assumption, by assumption, K3.set, mI_in (by assumption) rfl rfl rfl rfl rfl rfl rfl, n_sub (by assumption) (by simp only [wL, cL, List.cons_append, List.nil_append]; repeat' first | exact List.forall_mem_nil _ | (refine List.forall_mem_cons.mpr ⟨?_, ?_⟩; (focus kcj_m))), by assumption, by assumption, by assumption, by assumption, by assumption, by assumption, by assumption, ?_⟩; all_goals (first | omega | exact stored_len | exact Nat.le_succ _); done) | w_report)
end
end
-- part path_u
section
section
variable {w : World} {mean : ExcName → Option Value} {mg mb : Str → Option Value} {h₀ : Heap} {L fa : Addr} {ccd : Value} {s : Shared} {Q : Flow → Shared → Prop} {E : Value → Shared → Prop}
variable {params : Arguments} {body : List Stmt} {scope : Scope} {kd ln I : Addr} {okd it : Obj} {K : List (Int × Value)} {vs : List Value} {ns : List Int} {t1 t2 tk t4 t5 : Tok} {rest : Str → Option Value} {k kind key : Int} {tail : List Stmt}
variable {c1 dx1 da1 oa1 : Addr} {od1 oo1 : Obj} {A1 : List (Int × Int)} {D1 O1 : List (Int × Value)} {u1 v1 w1 x1 y1 z1 : Tok}
variable {c2 dx2 da2 oa2 : Addr} {od2 oo2 : Obj} {A2 : List (Int × Int)} {D2 O2 : List (Int × Value)} {u2 v2 w2 x2 y2 z2 : Tok}
variable {c3 dx3 da3 oa3 : Addr} {od3 oo3 : Obj} {A3 : List (Int × Int)} {D3 O3 : List (Int × Value)} {u3 v3 w3 x3 y3 z3 : Tok}
variable {p1 p2 p3 : Nat} {v : Int}
variable (lit : fdOf (stFn 35 none) = some (params, body, scope)) (B : Below callerA h₀ [] h₀) (F : Fr h₀ L s.heap (fun y => if y = Str.ofString "key" then some (.int key t4) else if y = Str.ofString "kind" then some (.int kind t5) else if y = Str.ofString "k" then some (.int k tk) else mI kd c1 c2 c3 ln p1 p2 t1 t2 rest y)) (X : (KF w.params).In h₀) (T : Top qv (looseW qv lo) mean mg mb h₀)
  (N : News h₀ L s.heap ((I, it) :: wL kd okd (cL c3 dx3 da3 oa3 (dictOf (cEs w.params da3 oa3 ((A3).length : Int) (p3 : Int) u3 v3 w3 x3 y3 z3) 4) od3 oo3) (cL c2 dx2 da2 oa2 (dictOf (cEs w.params da2 oa2 ((A2).length : Int) (p2 : Int) u2 v2 w2 x2 y2 z2) 4) od2 oo2) (cL c1 dx1 da1 oa1 (dictOf (cEs w.params da1 oa1 ((A1).length : Int) (p1 : Int) u1 v1 w1 x1 y1 z1) 4) od1 oo1) ln vs))
  (hd1 : od1.IsDictOf (intKind PW w) D1) (ho1 : oo1.IsDictOf (intKind PW w) O1) (la1 : (da1 == sysModules) = false) (lb1 : (oa1 == sysModules) = false) (a1 : @LT.lt Nat _ dx1 c1) (b1 : @LT.lt Nat _ c1 da1) (e1 : @LT.lt Nat _ da1 oa1) (R1 : Rel A1 D1 O1) (P1 : 1 ≤ p1) (Q1 : p1 ≤ 6) (le1 : A1.length ≤ p1)
  (hd2 : od2.IsDictOf (intKind PW w) D2) (ho2 : oo2.IsDictOf (intKind PW w) O2) (la2 : (da2 == sysModules) = false) (lb2 : (oa2 == sysModules) = false) (a2 : @LT.lt Nat _ dx2 c2) (b2 : @LT.lt Nat _ c2 da2) (e2 : @LT.lt Nat _ da2 oa2) (R2 : Rel A2 D2 O2) (P2 : 1 ≤ p2) (Q2 : p2 ≤ 6) (le2 : A2.length ≤ p2)
  (hd3 : od3.IsDictOf (intKind PW w) D3) (ho3 : oo3.IsDictOf (intKind PW w) O3) (la3 : (da3 == sysModules) = false) (lb3 : (oa3 == sysModules) = false) (a3 : @LT.lt Nat _ dx3 c3) (b3 : @LT.lt Nat _ c3 da3) (e3 : @LT.lt Nat _ da3 oa3) (R3 : Rel A3 D3 O3) (P3 : 1 ≤ p3) (Q3 : p3 ≤ 6) (le3 : A3.length ≤ p3)
  (hkd : okd.IsDictOf (intKind PW w) K) (lk : (kd == sysModules) = false) (zk : K.length ≤ 100) (hv : IntsAre vs ns) (f0 : @LT.lt Nat _ ln dx1) (f1 : @LT.lt Nat _ oa1 dx2) (f2 : @LT.lt Nat _ oa2 dx3) (f3 : @LT.lt Nat _ oa3 kd) (f4 : @LT.lt Nat _ kd I)
  (T3 : Tan A1 A2 A3 p1 p2) (K3 : Kn A3 K) (p12 : p3 = p1 + p2) (k0 : 2 ≤ k) (k1 : k + 1 < ns.length) (k2 : ns.length ≤ 40)
  (hcont : ∀ h' tk', Mid w h₀ L I it kd ln vs p1 p2 p3 t1 t2 c1 dx1 da1 oa1 c2 dx2 da2 oa2 c3 dx3 da3 oa3 u1 v1 x1 y1 z1 u2 v2 x2 y2 z2 u3 v3 x3 y3 z3 (K.length + 1) { s with heap := h', toks := tk' } → wpAny (model PW w) (callerA.deeper (envOf (Str.ofString "law") scope L fa ccd)) (execs tail (envOf (Str.ofString "law") scope L fa ccd)) Q E { s with heap := h', toks := tk' })
include lit B F X T N hd1 ho1 la1 lb1 a1 b1 e1 R1 P1 Q1 le1 hd2 ho2 la2 lb2 a2 b2 e2 R2 P2 Q2 le2 hd3 ho3 la3 lb3 a3 b3 e3 R3 P3 Q3 le3 hkd lk zk hv f0 f1 f2 f3 f4 T3 K3 p12 k0 k1 k2 hcont
theorem path_u (hk : kind = 6) (n2 : key ∉ ks A2) :
    wpAny (model PW w) (callerA.deeper (envOf (Str.ofString "law") scope L fa ccd)) (execs ((forB body).getD 2 (.Pass ⟨0, 0, 0, 0⟩) :: tail) (envOf (Str.ofString "law") scope L fa ccd)) Q E s := by
  have e := lit_in lit (by rfl)
  cases e
  clear lit
  show wpAny _ _ (execs (Stmt.If _ _ _ _ :: tail) _) _ _ _
  unfold mI at F
  simp only [wL, cL, List.cons_append, List.nil_append] at N
  subst p12
  k_steps
  all_goals (first | (refine' hcont _ _ ⟨_, _, _, _, _, _, _, _, _, _, _, _, _, _, _, _, _, _, _, _, _, T3.setOut P1 P2 n2 k, by assumption, by assumption, by assumption, K3.set, mI_in (by assumption) rfl rfl rfl rfl rfl rfl rfl, n_sub (by assumption) (by simp only [wL, cL, List.cons_append, List.nil_append]; repeat' first | exact List.forall_mem_nil _ | (refine List.forall_mem_cons.mpr ⟨?_, ?_⟩; (focus kcj_m))), by assumption, by assumption, by assumption, by assumption, by assumption, by assumption, by assumption, ?_⟩; all_goals (first | omega | exact stored_len | exact Nat.le_succ _); done) | w_report)
end
end
-- part path_a
section
section
variable {w : World} {mean : ExcName → Option Value} {mg mb : Str → Option Value} {h₀ : Heap} {L fa : Addr} {ccd : Value} {s : Shared} {Q : Flow → Shared → Prop} {E : Value → Shared → Prop}
variable {params : Arguments} {body : List Stmt} {scope : Scope} {kd ln I : Addr} {okd it : Obj} {K : List (Int × Value)} {vs : List Value} {ns : List Int} {t1 t2 tk t4 t5 : Tok} {rest : Str → Option Value} {k kind key : Int} {tail : List Stmt}
variable {c1 dx1 da1 oa1 : Addr} {od1 oo1 : Obj} {A1 : List (Int × Int)} {D1 O1 : List (Int × Value)} {u1 v1 w1 x1 y1 z1 : Tok}
variable {c2 dx2 da2 oa2 : Addr} {od2 oo2 : Obj} {A2 : List (Int × Int)} {D2 O2 : List (Int × Value)} {u2 v2 w2 x2 y2 z2 : Tok}
variable {c3 dx3 da3 oa3 : Addr} {od3 oo3 : Obj} {A3 : List (Int × Int)} {D3 O3 : List (Int × Value)} {u3 v3 w3 x3 y3 z3 : Tok}
variable {p1 p2 p3 : Nat} {v : Int}
variable (lit : fdOf (stFn 35 none) = some (params, body, scope)) (B : Below callerA h₀ [] h₀) (F : Fr h₀ L s.heap (fun y => if y = Str.ofString "key" then some (.int key t4) else if y = Str.ofString "kind" then some (.int kind t5) else if y = Str.ofString "k" then some (.int k tk) else mI kd c1 c2 c3 ln p1 p2 t1 t2 rest y)) (X : (KF w.params).In h₀) (T : Top qv (looseW qv lo) mean mg mb h₀)
  (N : News h₀ L s.heap ((I, it) :: wL kd okd (cL c3 dx3 da3 oa3 (dictOf (cEs w.params da3 oa3 ((A3).length : Int) (p3 : Int) u3 v3 w3 x3 y3 z3) 4) od3 oo3) (cL c2 dx2 da2 oa2 (dictOf (cEs w.params da2 oa2 ((A2).length : Int) (p2 : Int) u2 v2 w2 x2 y2 z2) 4) od2 oo2) (cL c1 dx1 da1 oa1 (dictOf (cEs w.params da1 oa1 ((A1).length : Int) (p1 : Int) u1 v1 w1 x1 y1 z1) 4) od1 oo1) ln vs))
  (hd1 : od1.IsDictOf (intKind PW w) D1) (ho1 : oo1.IsDictOf (intKind PW w) O1) (la1 : (da1 == sysModules) = false) (lb1 : (oa1 == sysModules) = false) (a1 : @LT.lt Nat _ dx1 c1) (b1 : @LT.lt Nat _ c1 da1) (e1 : @LT.lt Nat _ da1 oa1) (R1 : Rel A1 D1 O1) (P1 : 1 ≤ p1) (Q1 : p1 ≤ 6) (le1 : A1.length ≤ p1)
  (hd2 : od2.IsDictOf (intKind PW w) D2) (ho2 : oo2.IsDictOf (intKind PW w) O2) (la2 : (da2 == sysModules) = false) (lb2 : (oa2 == sysModules) = false) (a2 : @LT.lt Nat _ dx2 c2) (b2 : @LT.lt Nat _ c2 da2) (e2 : @LT.lt Nat _ da2 oa2) (R2 : Rel A2 D2 O2) (P2 : 1 ≤ p2) (Q2 : p2 ≤ 6) (le2 : A2.length ≤ p2)
  (hd3 : od3.IsDictOf (intKind PW w) D3) (ho3 : oo3.IsDictOf (intKind PW w) O3) (la3 : (da3 == sysModules) = false) (lb3 : (oa3 == sysModules) = false) (a3 : @LT.lt Nat _ dx3 c3) (b3 : @LT.lt Nat _ c3 da3) (e3 : @LT.lt Nat _ da3 oa3) (R3 : Rel A3 D3 O3) (P3 : 1 ≤ p3) (Q3 : p3 ≤ 6) (le3 : A3.length ≤ p3)
  (hkd : okd.IsDictOf (intKind PW w) K) (lk : (kd == sysModules) = false) (zk : K.length ≤ 100) (hv : IntsAre vs ns) (f0 : @LT.lt Nat _ ln dx1) (f1 : @LT.lt Nat _ oa1 dx2) (f2 : @LT.lt Nat _ oa2 dx3) (f3 : @LT.lt Nat _ oa3 kd) (f4 : @LT.lt Nat _ kd I)
  (T3 : Tan A1 A2 A3 p1 p2) (K3 : Kn A3 K) (p12 : p3 = p1 + p2) (k0 : 2 ≤ k) (k1 : k + 1 < ns.length) (k2 : ns.length ≤ 40)
  (hcont : ∀ h' tk', Mid w h₀ L I it kd ln vs p1 p2 p3 t1 t2 c1 dx1 da1 oa1 c2 dx2 da2 oa2 c3 dx3 da3 oa3 u1 v1 x1 y1 z1 u2 v2 x2 y2 z2 u3 v3 x3 y3 z3 (K.length + 1) { s with heap := h', toks := tk' } → wpAny (model PW w) (callerA.deeper (envOf (Str.ofString "law") scope L fa ccd)) (execs tail (envOf (Str.ofString "law") scope L fa ccd)) Q E { s with heap := h', toks := tk' })
include lit B F X T N hd1 ho1 la1 lb1 a1 b1 e1 R1 P1 Q1 le1 hd2 ho2 la2 lb2 a2 b2 e2 R2 P2 Q2 le2 hd3 ho3 la3 lb3 a3 b3 e3 R3 P3 Q3 le3 hkd lk zk hv f0 f1 f2 f3 f4 T3 K3 p12 k0 k1 k2 hcont
theorem path_a (hk : kind = 7) (hin : key ∈ ks A1) (h3 : (key, v) ∈ A3) :
    wpAny (model PW w) (callerA.deeper (envOf (Str.ofString "law") scope L fa ccd)) (execs ((forB body).getD 2 (.Pass ⟨0, 0, 0, 0⟩) :: tail) (envOf (Str.ofString "law") scope L fa ccd)) Q E s := by
  have e := lit_in lit (by rfl)
  cases e
  clear lit
  show wpAny _ _ (execs (Stmt.If _ _ _ _ :: tail) _) _ _ _
  unfold mI at F
  simp only [wL, cL, List.cons_append, List.nil_append] at N
  have i3 : key ∈ ks A3 := List.mem_map.mpr ⟨_, h3, rfl⟩
  have h1 := T3.valA h3 hin
  k_steps
  all_goals (first | (refine' hcont _ _ ⟨_, _, _, _, _, _, _, _, _, _, _, _, _, _, _, _, _, _, _, _, _, T3.outA1 hin, by assumption, by assumption, by assumption, K3.out _, mI_in (by assumption) rfl rfl rfl rfl rfl rfl rfl, n_sub (by assumption) (by simp only [wL, cL, List.cons_append, List.nil_append]; repeat' first | exact List.forall_mem_nil _ | (refine List.forall_mem_cons.mpr ⟨?_, ?_⟩; (focus kcj_m))), by assumption, by assumption, by assumption, by assumption, by assumption, by assumption, by assumption, ?_⟩; all_goals (first | omega | exact stored_len | exact Nat.le_succ _); done) | w_report)
end
end
-- part path_b
section
section
variable {w : World} {mean : ExcName → Option Value} {mg mb : Str → Option Value} {h₀ : Heap} {L fa : Addr} {ccd : Value} {s : Shared} {Q : Flow → Shared → Prop} {E : Value → Shared → Prop}
variable {params : Arguments} {body : List Stmt} {scope : Scope} {kd ln I : Addr} {okd it : Obj} {K : List (Int × Value)} {vs : List Value} {ns : List Int} {t1 t2 tk t4 t5 : Tok} {rest : Str → Option Value} {k kind key : Int} {tail : List Stmt}
variable {c1 dx1 da1 oa1 : Addr} {od1 oo1 : Obj} {A1 : List (Int × Int)} {D1 O1 : List (Int × Value)} {u1 v1 w1 x1 y1 z1 : Tok}
variable {c2 dx2 da2 oa2 : Addr} {od2 oo2 : Obj} {A2 : List (Int × Int)} {D2 O2 : List (Int × Value)} {u2 v2 w2 x2 y2 z2 : Tok}
variable {c3 dx3 da3 oa3 : Addr} {od3 oo3 : Obj} {A3 : List (Int × Int)} {D3 O3 : List (Int × Value)} {u3 v3 w3 x3 y3 z3 : Tok}
variable {p1 p2 p3 : Nat} {v : Int}
variable (lit : fdOf (stFn 35 none) = some (params, body, scope)) (B : Below callerA h₀ [] h₀) (F : Fr h₀ L s.heap (fun y => if y = Str.ofString "key" then some (.int key t4) else if y = Str.ofString "kind" then some (.int kind t5) else if y = Str.ofString "k" then some (.int k tk) else mI kd c1 c2 c3 ln p1 p2 t1 t2 rest y)) (X : (KF w.params).In h₀) (T : Top qv (looseW qv lo) mean mg mb h₀)
  (N : News h₀ L s.heap ((I, it) :: wL kd okd (cL c3 dx3 da3 oa3 (dictOf (cEs w.params da3 oa3 ((A3).length : Int) (p3 : Int) u3 v3 w3 x3 y3 z3) 4) od3 oo3) (cL c2 dx2 da2 oa2 (dictOf (cEs w.params da2 oa2 ((A2).length : Int) (p2 : Int) u2 v2 w2 x2 y2 z2) 4) od2 oo2) (cL c1 dx1 da1 oa1 (dictOf (cEs w.params da1 oa1 ((A1).length : Int) (p1 : Int) u1 v1 w1 x1 y1 z1) 4) od1 oo1) ln vs))
  (hd1 : od1.IsDictOf (intKind PW w) D1) (ho1 : oo1.IsDictOf (intKind PW w) O1) (la1 : (da1 == sysModules) = false) (lb1 : (oa1 == sysModules) = false) (a1 : @LT.lt Nat _ dx1 c1) (b1 : @LT.lt Nat _ c1 da1) (e1 : @LT.lt Nat _ da1 oa1) (R1 : Rel A1 D1 O1) (P1 : 1 ≤ p1) (Q1 : p1 ≤ 6) (le1 : A1.length ≤ p1)
  (hd2 : od2.IsDictOf (intKind PW w) D2) (ho2 : oo2.IsDictOf (intKind PW w) O2) (la2 : (da2 == sysModules) = false) (lb2 : (oa2 == sysModules) = false) (a2 : @LT.lt Nat _ dx2 c2) (b2 : @LT.lt Nat _ c2 da2) (e2 : @LT.lt Nat _ da2 oa2) (R2 : Rel A2 D2 O2) (P2 : 1 ≤ p2) (Q2 : p2 ≤ 6) (le2 : A2.length ≤ p2)
  (hd3 : od3.IsDictOf (intKind PW w) D3) (ho3 : oo3.IsDictOf (intKind PW w) O3) (la3 : (da3 == sysModules) = false) (lb3 : (oa3 == sysModules) = false) (a3 : @LT.lt Nat _ dx3 c3) (b3 : @LT.lt Nat _ c3 da3) (e3 : @LT.lt Nat _ da3 oa3) (R3 : Rel A3 D3 O3) (P3 : 1 ≤ p3) (Q3 : p3 ≤ 6) (le3 : A3.length ≤ p3)
  (hkd : okd.IsDictOf (intKind PW w) K) (lk : (kd == sysModules) = false) (zk : K.length ≤ 100) (hv : IntsAre vs ns) (f0 : @LT.lt Nat _ ln dx1) (f1 : @LT.lt Nat _ oa1 dx2) (f2 : @LT.lt Nat _ oa2 dx3) (f3 : @LT.lt Nat _ oa3 kd) (f4 : @LT.lt Nat _ kd I)
  (T3 : Tan A1 A2 A3 p1 p2) (K3 : Kn A3 K) (p12 : p3 = p1 + p2) (k0 : 2 ≤ k) (k1 : k + 1 < ns.length) (k2 : ns.length ≤ 40)
  (hcont : ∀ h' tk', Mid w h₀ L I it kd ln vs p1 p2 p3 t1 t2 c1 dx1 da1 oa1 c2 dx2 da2 oa2 c3 dx3 da3 oa3 u1 v1 x1 y1 z1 u2 v2 x2 y2 z2 u3 v3 x3 y3 z3 (K.length + 1) { s with heap := h', toks := tk' } → wpAny (model PW w) (callerA.deeper (envOf (Str.ofString "law") scope L fa ccd)) (execs tail (envOf (Str.ofString "law") scope L fa ccd)) Q E { s with heap := h', toks := tk' })
include lit B F X T N hd1 ho1 la1 lb1 a1 b1 e1 R1 P1 Q1 le1 hd2 ho2 la2 lb2 a2 b2 e2 R2 P2 Q2 le2 hd3 ho3 la3 lb3 a3 b3 e3 R3 P3 Q3 le3 hkd lk zk hv f0 f1 f2 f3 f4 T3 K3 p12 k0 k1 k2 hcont
theorem path_b (hk : kind = 7) (hin : key ∈ ks A2) (h3 : (key, v) ∈ A3) :
    wpAny (model PW w) (callerA.deeper (envOf (Str.ofString "law") scope L fa ccd)) (execs ((forB body).getD 2 (.Pass ⟨0, 0, 0, 0⟩) :: tail) (envOf (Str.ofString "law") scope L fa ccd)) Q E s := by
  have e := lit_in lit (by rfl)
  cases e
  clear lit
  show wpAny _ _ (execs (Stmt.If _ _ _ _ :: tail) _) _ _ _
  unfold mI at F
  simp only [wL, cL, List.cons_append, List.nil_append] at N
  have i3 : key ∈ ks A3 := List.mem_map.mpr ⟨_, h3, rfl⟩
  have n1 := T3.apart hin
  have h2 := T3.valB h3 hin
  k_steps
  all_goals (first | (refine' hcont _ _ ⟨_, _, _, _, _, _, _, _, _, _, _, _, _, _, _, _, _, _, _, _, _, T3.outB1 hin, by assumption, by assumption, by assumption, K3.out _, mI_in (by assumption) rfl rfl rfl rfl rfl rfl rfl, n_sub (by assumption) (by simp only [wL, cL, List.cons_append, List.nil_append]; repeat' first | exact List.forall_mem_nil _ | (refine List.forall_mem_cons.mpr ⟨?_, ?_⟩; (focus kcj_m))), by assumption, by assumption, by assumption, by assumption, by assumption, by assumption, by assumption, ?_⟩; all_goals (first | omega | exact stored_len | exact Nat.le_succ _); done) | w_report)
end
end
-- part path_c
section
section
variable {w : World} {mean : ExcName → Option Value} {mg mb : Str → Option Value} {h₀ : Heap} {L fa : Addr} {ccd : Value} {s : Shared} {Q : Flow → Shared → Prop} {E : Value → Shared → Prop}
variable {params : Arguments} {body : List Stmt} {scope : Scope} {kd ln I : Addr} {okd it : Obj} {K : List (Int × Value)} {vs : List Value} {ns : List Int} {t1 t2 tk t4 t5 : Tok} {rest : Str → Option Value} {k kind key : Int} {tail : List Stmt}
variable {c1 dx1 da1 oa1 : Addr} {od1 oo1 : Obj} {A1 : List (Int × Int)} {D1 O1 : List (Int × Value)} {u1 v1 w1 x1 y1 z1 : Tok}
variable {c2 dx2 da2 oa2 : Addr} {od2 oo2 : Obj} {A2 : List (Int × Int)} {D2 O2 : List (Int × Value)} {u2 v2 w2 x2 y2 z2 : Tok}
variable {c3 dx3 da3 oa3 : Addr} {od3 oo3 : Obj} {A3 : List (Int × Int)} {D3 O3 : List (Int × Value)} {u3 v3 w3 x3 y3 z3 : Tok}
variable {p1 p2 p3 : Nat} {v : Int}
variable (lit : fdOf (stFn 35 none) = some (params, body, scope)) (B : Below callerA h₀ [] h₀) (F : Fr h₀ L s.heap (fun y => if y = Str.ofString "key" then some (.int key t4) else if y = Str.ofString "kind" then some (.int kind t5) else if y = Str.ofString "k" then some (.int k tk) else mI kd c1 c2 c3 ln p1 p2 t1 t2 rest y)) (X : (KF w.params).In h₀) (T : Top qv (looseW qv lo) mean mg mb h₀)
  (N : News h₀ L s.heap ((I, it) :: wL kd okd (cL c3 dx3 da3 oa3 (dictOf (cEs w.params da3 oa3 ((A3).length : Int) (p3 : Int) u3 v3 w3 x3 y3 z3) 4) od3 oo3) (cL c2 dx2 da2 oa2 (dictOf (cEs w.params da2 oa2 ((A2).length : Int) (p2 : Int) u2 v2 w2 x2 y2 z2) 4) od2 oo2) (cL c1 dx1 da1 oa1 (dictOf (cEs w.params da1 oa1 ((A1).length : Int) (p1 : Int) u1 v1 w1 x1 y1 z1) 4) od1 oo1) ln vs))
  (hd1 : od1.IsDictOf (intKind PW w) D1) (ho1 : oo1.IsDictOf (intKind PW w) O1) (la1 : (da1 == sysModules) = false) (lb1 : (oa1 == sysModules) = false) (a1 : @LT.lt Nat _ dx1 c1) (b1 : @LT.lt Nat _ c1 da1) (e1 : @LT.lt Nat _ da1 oa1) (R1 : Rel A1 D1 O1) (P1 : 1 ≤ p1) (Q1 : p1 ≤ 6) (le1 : A1.length ≤ p1)
  (hd2 : od2.IsDictOf (intKind PW w) D2) (ho2 : oo2.IsDictOf (intKind PW w) O2) (la2 : (da2 == sysModules) = false) (lb2 : (oa2 == sysModules) = false) (a2 : @LT.lt Nat _ dx2 c2) (b2 : @LT.lt Nat _ c2 da2) (e2 : @LT.lt Nat _ da2 oa2) (R2 : Rel A2 D2 O2) (P2 : 1 ≤ p2) (Q2 : p2 ≤ 6) (le2 : A2.length ≤ p2)
  (hd3 : od3.IsDictOf (intKind PW w) D3) (ho3 : oo3.IsDictOf (intKind PW w) O3) (la3 : (da3 == sysModules) = false) (lb3 : (oa3 == sysModules) = false) (a3 : @LT.lt Nat _ dx3 c3) (b3 : @LT.lt Nat _ c3 da3) (e3 : @LT.lt Nat _ da3 oa3) (R3 : Rel A3 D3 O3) (P3 : 1 ≤ p3) (Q3 : p3 ≤ 6) (le3 : A3.length ≤ p3)
  (hkd : okd.IsDictOf (intKind PW w) K) (lk : (kd == sysModules) = false) (zk : K.length ≤ 100) (hv : IntsAre vs ns) (f0 : @LT.lt Nat _ ln dx1) (f1 : @LT.lt Nat _ oa1 dx2) (f2 : @LT.lt Nat _ oa2 dx3) (f3 : @LT.lt Nat _ oa3 kd) (f4 : @LT.lt Nat _ kd I)
  (T3 : Tan A1 A2 A3 p1 p2) (K3 : Kn A3 K) (p12 : p3 = p1 + p2) (k0 : 2 ≤ k) (k1 : k + 1 < ns.length) (k2 : ns.length ≤ 40)
  (hcont : ∀ h' tk', Mid w h₀ L I it kd ln vs p1 p2 p3 t1 t2 c1 dx1 da1 oa1 c2 dx2 da2 oa2 c3 dx3 da3 oa3 u1 v1 x1 y1 z1 u2 v2 x2 y2 z2 u3 v3 x3 y3 z3 (K.length + 1) { s with heap := h', toks := tk' } → wpAny (model PW w) (callerA.deeper (envOf (Str.ofString "law") scope L fa ccd)) (execs tail (envOf (Str.ofString "law") scope L fa ccd)) Q E { s with heap := h', toks := tk' })
include lit B F X T N hd1 ho1 la1 lb1 a1 b1 e1 R1 P1 Q1 le1 hd2 ho2 la2 lb2 a2 b2 e2 R2 P2 Q2 le2 hd3 ho3 la3 lb3 a3 b3 e3 R3 P3 Q3 le3 hkd lk zk hv f0 f1 f2 f3 f4 T3 K3 p12 k0 k1 k2 hcont
theorem path_c (hk : kind = 7) (n3 : key ∉ ks A3) :
    wpAny (model PW w) (callerA.deeper (envOf (Str.ofString "law") scope L fa ccd)) (execs ((forB body).getD 2 (.Pass ⟨0, 0, 0, 0⟩) :: tail) (envOf (Str.ofString "law") scope L fa ccd)) Q E s := by
  have e := lit_in lit (by rfl)
  cases e
  clear lit
  show wpAny _ _ (execs (Stmt.If _ _ _ _ :: tail) _) _ _ _
  unfold mI at F
  simp only [wL, cL, List.cons_append, List.nil_append] at N
  have n1 : key ∉ ks A1 := fun h => n3 (T3.mem.mpr (.inr h))
  have n2 : key ∉ ks A2 := fun h => n3 (T3.mem.mpr (.inl h))
  k_steps
  all_goals (first | (refine' hcont _ _ ⟨_, _, _, _, _, _, _, _, _, _, _, _, _, _, _, _, _, _, _, _, _, T3, by assumption, by assumption, by assumption, K3, mI_in (by assumption) rfl rfl rfl rfl rfl rfl rfl, n_sub (by assumption) (by simp only [wL, cL, List.cons_append, List.nil_append]; repeat' first | exact List.forall_mem_nil _ | (refine List.forall_mem_cons.mpr ⟨?_, ?_⟩; (focus kcj_m))), by assumption, by assumption, by assumption, by assumption, by assumption, by assumption, by assumption, ?_⟩; all_goals (first | omega | exact stored_len | exact Nat.le_succ _); done) | w_report)
end
end
-- part path_d
section
local macro_rules | `(tactic| walk_at "exec For Name Tuple") => `(tactic| (k_here; ktu_look; (rename Fr _ _ _ _ => lF'); (with_unfolding_all refine' For_turns lF' ?_; k_whole)))
section
variable {w : World} {mean : ExcName → Option Value} {mg mb : Str → Option Value} {h₀ : Heap} {L fa : Addr} {ccd : Value} {s : Shared} {Q : Flow → Shared → Prop} {E : Value → Shared → Prop}
variable {params : Arguments} {body : List Stmt} {scope : Scope} {kd ln I : Addr} {okd it : Obj} {K : List (Int × Value)} {vs : List Value} {ns : List Int} {t1 t2 tk t4 t5 : Tok} {rest : Str → Option Value} {k kind key : Int} {tail : List Stmt}
variable {c1 dx1 da1 oa1 : Addr} {od1 oo1 : Obj} {A1 : List (Int × Int)} {D1 O1 : List (Int × Value)} {u1 v1 w1 x1 y1 z1 : Tok}
variable {c2 dx2 da2 oa2 : Addr} {od2 oo2 : Obj} {A2 : List (Int × Int)} {D2 O2 : List (Int × Value)} {u2 v2 w2 x2 y2 z2 : Tok}
variable {c3 dx3 da3 oa3 : Addr} {od3 oo3 : Obj} {A3 : List (Int × Int)} {D3 O3 : List (Int × Value)} {u3 v3 w3 x3 y3 z3 : Tok}
variable {p1 p2 p3 : Nat} {v : Int}
variable (lit : fdOf (stFn 35 none) = some (params, body, scope)) (B : Below callerA h₀ [] h₀) (F : Fr h₀ L s.heap (fun y => if y = Str.ofString "key" then some (.int key t4) else if y = Str.ofString "kind" then some (.int kind t5) else if y = Str.ofString "k" then some (.int k tk) else mI kd c1 c2 c3 ln p1 p2 t1 t2 rest y)) (X : (KF w.params).In h₀) (T : Top qv (looseW qv lo) mean mg mb h₀)
  (N : News h₀ L s.heap ((I, it) :: wL kd okd (cL c3 dx3 da3 oa3 (dictOf (cEs w.params da3 oa3 ((A3).length : Int) (p3 : Int) u3 v3 w3 x3 y3 z3) 4) od3 oo3) (cL c2 dx2 da2 oa2 (dictOf (cEs w.params da2 oa2 ((A2).length : Int) (p2 : Int) u2 v2 w2 x2 y2 z2) 4) od2 oo2) (cL c1 dx1 da1 oa1 (dictOf (cEs w.params da1 oa1 ((A1).length : Int) (p1 : Int) u1 v1 w1 x1 y1 z1) 4) od1 oo1) ln vs))
  (hd1 : od1.IsDictOf (intKind PW w) D1) (ho1 : oo1.IsDictOf (intKind PW w) O1) (la1 : (da1 == sysModules) = false) (lb1 : (oa1 == sysModules) = false) (a1 : @LT.lt Nat _ dx1 c1) (b1 : @LT.lt Nat _ c1 da1) (e1 : @LT.lt Nat _ da1 oa1) (R1 : Rel A1 D1 O1) (P1 : 1 ≤ p1) (Q1 : p1 ≤ 6) (le1 : A1.length ≤ p1)
  (hd2 : od2.IsDictOf (intKind PW w) D2) (ho2 : oo2.IsDictOf (intKind PW w) O2) (la2 : (da2 == sysModules) = false) (lb2 : (oa2 == sysModules) = false) (a2 : @LT.lt Nat _ dx2 c2) (b2 : @LT.lt Nat _ c2 da2) (e2 : @LT.lt Nat _ da2 oa2) (R2 : Rel A2 D2 O2) (P2 : 1 ≤ p2) (Q2 : p2 ≤ 6) (le2 : A2.length ≤ p2)
  (hd3 : od3.IsDictOf (intKind PW w) D3) (ho3 : oo3.IsDictOf (intKind PW w) O3) (la3 : (da3 == sysModules) = false) (lb3 : (oa3 == sysModules) = false) (a3 : @LT.lt Nat _ dx3 c3) (b3 : @LT.lt Nat _ c3 da3) (e3 : @LT.lt Nat _ da3 oa3) (R3 : Rel A3 D3 O3) (P3 : 1 ≤ p3) (Q3 : p3 ≤ 6) (le3 : A3.length ≤ p3)
  (hkd : okd.IsDictOf (intKind PW w) K) (lk : (kd == sysModules) = false) (zk : K.length ≤ 100) (hv : IntsAre vs ns) (f0 : @LT.lt Nat _ ln dx1) (f1 : @LT.lt Nat _ oa1 dx2) (f2 : @LT.lt Nat _ oa2 dx3) (f3 : @LT.lt Nat _ oa3 kd) (f4 : @LT.lt Nat _ kd I)
  (T3 : Tan A1 A2 A3 p1 p2) (K3 : Kn A3 K) (p12 : p3 = p1 + p2) (k0 : 2 ≤ k) (k1 : k + 1 < ns.length) (k2 : ns.length ≤ 40)
  (hcont : ∀ h' tk', Mid w h₀ L I it kd ln vs p1 p2 p3 t1 t2 c1 dx1 da1 oa1 c2 dx2 da2 oa2 c3 dx3 da3 oa3 u1 v1 x1 y1 z1 u2 v2 x2 y2 z2 u3 v3 x3 y3 z3 (K.length + 1) { s with heap := h', toks := tk' } → wpAny (model PW w) (callerA.deeper (envOf (Str.ofString "law") scope L fa ccd)) (execs tail (envOf (Str.ofString "law") scope L fa ccd)) Q E { s with heap := h', toks := tk' })
include lit B F X T N hd1 ho1 la1 lb1 a1 b1 e1 R1 P1 Q1 le1 hd2 ho2 la2 lb2 a2 b2 e2 R2 P2 Q2 le2 hd3 ho3 la3 lb3 a3 b3 e3 R3 P3 Q3 le3 hkd lk zk hv f0 f1 f2 f3 f4 T3 K3 p12 k0 k1 k2 hcont
theorem path_d (hE : PassesOwn (model PW w) (callerA.deeper (envOf (Str.ofString "law") scope L fa ccd)) (envOf (Str.ofString "law") scope L fa ccd) E) (hk : 7 < kind) :
    wpAny (model PW w) (callerA.deeper (envOf (Str.ofString "law") scope L fa ccd)) (execs ((forB body).getD 2 (.Pass ⟨0, 0, 0, 0⟩) :: tail) (envOf (Str.ofString "law") scope L fa ccd)) Q E s := by
  have e := lit_in lit (by rfl)
  cases e
  clear lit
  show wpAny _ _ (execs (Stmt.If _ _ _ _ :: tail) _) _ _ _
  unfold mI at F
  simp only [wL, cL, List.cons_append, List.nil_append] at N
  k_steps
  all_goals (first | (refine' hcont _ _ ⟨_, _, _, _, _, _, _, _, _, _, _, _, _, _, _, _, _, _, _, _, _, Tan.start P1 P2, by assumption, by assumption, by assumption, Kn.nil, mI_in (by assumption) rfl rfl rfl rfl rfl rfl rfl, n_sub (by assumption) (by simp only [wL, cL, List.cons_append, List.nil_append]; repeat' first | exact List.forall_mem_nil _ | (refine List.forall_mem_cons.mpr ⟨?_, ?_⟩; (focus kcj_m))), by assumption, by assumption, by assumption, by assumption, by assumption, by assumption, by assumption, ?_⟩; all_goals (first | omega | exact stored_len | exact Nat.le_succ _); done) | w_report)
end
end
-- part t_pre
section
section
variable {w : World} {mean : ExcName → Option Value} {mg mb : Str → Option Value} {h₀ : Heap} {L fa : Addr} {ccd : Value} {s : Shared} {Q : Flow → Shared → Prop} {E : Value → Shared → Prop}
variable {params : Arguments} {body : List Stmt} {scope : Scope} {kd ln I : Addr} {okd it : Obj} {K : List (Int × Value)} {vs : List Value} {ns : List Int} {t1 t2 tk t4 t5 : Tok} {rest : Str → Option Value} {k kind key : Int} {tail : List Stmt}
variable {c1 dx1 da1 oa1 : Addr} {od1 oo1 : Obj} {A1 : List (Int × Int)} {D1 O1 : List (Int × Value)} {u1 v1 w1 x1 y1 z1 : Tok}
variable {c2 dx2 da2 oa2 : Addr} {od2 oo2 : Obj} {A2 : List (Int × Int)} {D2 O2 : List (Int × Value)} {u2 v2 w2 x2 y2 z2 : Tok}
variable {c3 dx3 da3 oa3 : Addr} {od3 oo3 : Obj} {A3 : List (Int × Int)} {D3 O3 : List (Int × Value)} {u3 v3 w3 x3 y3 z3 : Tok}
variable {p1 p2 p3 : Nat} {v : Int}
variable (lit : fdOf (stFn 35 none) = some (params, body, scope)) (B : Below callerA h₀ [] h₀) (F : Fr h₀ L s.heap (fun y => if y = Str.ofString "k" then some (.int k tk) else mI kd c1 c2 c3 ln p1 p2 t1 t2 rest y)) (X : (KF w.params).In h₀) (T : Top qv (looseW qv lo) mean mg mb h₀)
  (N : News h₀ L s.heap ((I, it) :: wL kd okd (cL c3 dx3 da3 oa3 (dictOf (cEs w.params da3 oa3 ((A3).length : Int) (p3 : Int) u3 v3 w3 x3 y3 z3) 4) od3 oo3) (cL c2 dx2 da2 oa2 (dictOf (cEs w.params da2 oa2 ((A2).length : Int) (p2 : Int) u2 v2 w2 x2 y2 z2) 4) od2 oo2) (cL c1 dx1 da1 oa1 (dictOf (cEs w.params da1 oa1 ((A1).length : Int) (p1 : Int) u1 v1 w1 x1 y1 z1) 4) od1 oo1) ln vs))
  (hd1 : od1.IsDictOf (intKind PW w) D1) (ho1 : oo1.IsDictOf (intKind PW w) O1) (la1 : (da1 == sysModules) = false) (lb1 : (oa1 == sysModules) = false) (a1 : @LT.lt Nat _ dx1 c1) (b1 : @LT.lt Nat _ c1 da1) (e1 : @LT.lt Nat _ da1 oa1) (R1 : Rel A1 D1 O1) (P1 : 1 ≤ p1) (Q1 : p1 ≤ 6) (le1 : A1.length ≤ p1)
  (hd2 : od2.IsDictOf (intKind PW w) D2) (ho2 : oo2.IsDictOf (intKind PW w) O2) (la2 : (da2 == sysModules) = false) (lb2 : (oa2 == sysModules) = false) (a2 : @LT.lt Nat _ dx2 c2) (b2 : @LT.lt Nat _ c2 da2) (e2 : @LT.lt Nat _ da2 oa2) (R2 : Rel A2 D2 O2) (P2 : 1 ≤ p2) (Q2 : p2 ≤ 6) (le2 : A2.length ≤ p2)
  (hd3 : od3.IsDictOf (intKind PW w) D3) (ho3 : oo3.IsDictOf (intKind PW w) O3) (la3 : (da3 == sysModules) = false) (lb3 : (oa3 == sysModules) = false) (a3 : @LT.lt Nat _ dx3 c3) (b3 : @LT.lt Nat _ c3 da3) (e3 : @LT.lt Nat _ da3 oa3) (R3 : Rel A3 D3 O3) (P3 : 1 ≤ p3) (Q3 : p3 ≤ 6) (le3 : A3.length ≤ p3)
  (hkd : okd.IsDictOf (intKind PW w) K) (lk : (kd == sysModules) = false) (zk : K.length ≤ 100) (hv : IntsAre vs ns) (f0 : @LT.lt Nat _ ln dx1) (f1 : @LT.lt Nat _ oa1 dx2) (f2 : @LT.lt Nat _ oa2 dx3) (f3 : @LT.lt Nat _ oa3 kd) (f4 : @LT.lt Nat _ kd I)
  (T3 : Tan A1 A2 A3 p1 p2) (K3 : Kn A3 K) (p12 : p3 = p1 + p2) (k0 : 2 ≤ k) (k1 : k + 1 < ns.length) (k2 : ns.length ≤ 40)
  (hcont : ∀ h' tk' t4 t5, Fr h₀ L h' (fun y => if y = Str.ofString "key" then some (.int ((ns.getD (k + 1).toNat 0).fmod 7) t4) else if y = Str.ofString "kind" then some (.int ((ns.getD k.toNat 0).fmod 9) t5) else if y = Str.ofString "k" then some (.int k tk) else mI kd c1 c2 c3 ln p1 p2 t1 t2 rest y) → News h₀ L h' ((I, it) :: wL kd okd (cL c3 dx3 da3 oa3 (dictOf (cEs w.params da3 oa3 ((A3).length : Int) (p3 : Int) u3 v3 w3 x3 y3 z3) 4) od3 oo3) (cL c2 dx2 da2 oa2 (dictOf (cEs w.params da2 oa2 ((A2).length : Int) (p2 : Int) u2 v2 w2 x2 y2 z2) 4) od2 oo2) (cL c1 dx1 da1 oa1 (dictOf (cEs w.params da1 oa1 ((A1).length : Int) (p1 : Int) u1 v1 w1 x1 y1 z1) 4) od1 oo1) ln vs) → wpAny (model PW w) (callerA.deeper (envOf (Str.ofString "law") scope L fa ccd)) (execs tail (envOf (Str.ofString "law") scope L fa ccd)) Q E { s with heap := h', toks := tk' })
include lit B F X T N hd1 ho1 la1 lb1 a1 b1 e1 R1 P1 Q1 le1 hd2 ho2 la2 lb2 a2 b2 e2 R2 P2 Q2 le2 hd3 ho3 la3 lb3 a3 b3 e3 R3 P3 Q3 le3 hkd lk zk hv f0 f1 f2 f3 f4 T3 K3 p12 k0 k1 k2 hcont
theorem t_pre :
    wpAny (model PW w) (callerA.deeper (envOf (Str.ofString "law") scope L fa ccd)) (execs ((forB body).getD 0 (.Pass ⟨0, 0, 0, 0⟩) :: (forB body).getD 1 (.Pass ⟨0, 0, 0, 0⟩) :: tail) (envOf (Str.ofString "law") scope L fa ccd)) Q E s := by
  have e := lit_in lit (by rfl)
  cases e
  clear lit
  show wpAny _ _ (execs (Stmt.Assign _ _ _ :: Stmt.Assign _ _ _ :: tail) _) _ _ _
  unfold mI at F
  simp only [wL, cL, List.cons_append, List.nil_append] at N
  k_steps
  all_goals (first | exact hcont _ _ _ _ (by assumption) (by assumption) | w_report)
end
end
-- part t_end
section
local macro_rules | `(tactic| walk_at "call type:list") => `(tactic| (k_here; (try dsimp only [List.nil_append, List.cons_append]); (with_reducible show wpAny _ _ (call (Value.type "list") [Value.ref _]) _ _ _); k_dflt (refine' r_list ?zqB ?zqF ?zqX ?zqT ?zqhk ?zqNN ?zqhoff ?zqhd ?zqho ?zql1 ?zql2 ?zqo1 ?zqo2 ?zqo3 ?zqR ?zqp1 ?zqp2 ?zqle ?zqdp ?zqun ?_; (case zqB => k_asm); (case zqF => k_asm); (case zqX => k_asm); (case zqT => k_asm); (case zqhk => first | rfl | assumption); (case zqNN => first | exact n_split0 (by k_asm) | exact n_split1 (by k_asm) | exact n_split2 (by k_asm) | exact n_split3 (by k_asm) | exact n_split4 (by k_asm) | exact n_split5 (by k_asm) | exact n_split6 (by k_asm) | exact n_split7 (by k_asm) | exact n_split8 (by k_asm) | exact n_split9 (by k_asm) | exact n_split10 (by k_asm) | exact n_split11 (by k_asm) | exact n_split12 (by k_asm) | exact n_split13 (by k_asm) | exact n_split14 (by k_asm)); (case zqR => assumption); (case zqhd => assumption); (case zqho => assumption); (case zqhoff => refine hoff_of ?_; simp only [hoffB, hoffR, and_true]; omega); (case zql1 => assumption); (case zql2 => assumption); (case zqo1 => first | assumption | omega); (case zqo2 => first | assumption | omega); (case zqo3 => first | assumption | omega); (case zqp1 => omega); (case zqp2 => omega); (case zqle => first | assumption | omega); (case zqdp => ktr_room); (case zqun => ktr_units)); intro h9 tk9 S9 vs9 cc9 ns9 F9 N9 I9 pp9 lq9 lr9; (simp only [List.forall_mem_cons, List.not_mem_nil, false_implies, implies_true, and_true] at lq9 lr9); (try simp only [List.append_nil, List.cons_append, List.nil_append] at N9); (try dsimp only); (try k_fold)))
local macro_rules | `(tactic| walk_at "call builtin:sorted") => `(tactic| (k_here; (try dsimp only [List.nil_append, List.cons_append]); (with_reducible show wpAny _ _ (call (Value.builtin "sorted") [Value.ref _]) _ _ _); k_dflt (refine' r_sorted ?zqB ?zqF ?zqX ?zqT ?zqhk ?zqNN ?zqhoff ?zqhd ?zqho ?zql1 ?zql2 ?zqo1 ?zqo2 ?zqo3 ?zqR ?zqp1 ?zqp2 ?zqle ?zqdp ?zqun ?_; (case zqB => k_asm); (case zqF => k_asm); (case zqX => k_asm); (case zqT => k_asm); (case zqhk => first | rfl | assumption); (case zqNN => first | exact n_split0 (by k_asm) | exact n_split1 (by k_asm) | exact n_split2 (by k_asm) | exact n_split3 (by k_asm) | exact n_split4 (by k_asm) | exact n_split5 (by k_asm) | exact n_split6 (by k_asm) | exact n_split7 (by k_asm) | exact n_split8 (by k_asm) | exact n_split9 (by k_asm) | exact n_split10 (by k_asm) | exact n_split11 (by k_asm) | exact n_split12 (by k_asm) | exact n_split13 (by k_asm) | exact n_split14 (by k_asm)); (case zqR => assumption); (case zqhd => assumption); (case zqho => assumption); (case zqhoff => refine hoff_of ?_; simp only [hoffB, hoffR, and_true]; omega); (case zql1 => assumption); (case zql2 => assumption); (case zqo1 => first | assumption | omega); (case zqo2 => first | assumption | omega); (case zqo3 => first | assumption | omega); (case zqp1 => omega); (case zqp2 => omega); (case zqle => first | assumption | omega); (case zqdp => ktr_room); (case zqun => ktr_units)); intro h9 tk9 S9 vs9 cc9 ns9 F9 N9 I9 pp9 ww9 lq9 lr9; (simp only [List.forall_mem_cons, List.not_mem_nil, false_implies, implies_true, and_true] at lq9 lr9); (try simp only [List.append_nil, List.cons_append, List.nil_append] at N9); (try dsimp only); (try k_fold)))
theorem t_list {h₀ h : Heap} {L l : Addr} {news : List (Addr × Obj)} {vs : List Value} {n : Nat} (N : News h₀ L h news) (hm : (l, PySem.W.listOf vs.toArray n) ∈ news) : h.IsList l vs.toArray := ⟨_, (N _ hm).1, rfl, n, rfl⟩
section
variable {prog : Program} {w : World} {A : Around} {E : Value → Shared → Prop} {s : Shared} {h₀ : Heap} {L l a b : Addr} {m : Str → Option Value} {news : List (Addr × Obj)} {vs us : List Value} {ns ms n1 n2 : List Int} {Q : Value → Shared → Prop} {A1 A2 A3 : List (Int × Int)} {p q : Nat}
theorem t_sorted (F : Fr h₀ L s.heap m) (N : News h₀ L s.heap news) (hm : (l, PySem.W.listOf vs.toArray 0) ∈ news) (hi : IntsAre vs (n1 ++ n2)) (q1 : n1.Perm (ks A1)) (q2 : n2.Perm (ks A2)) (z1 : A1.length ≤ 20) (z2 : A2.length ≤ 20)
    (h : ∀ D vs' ns' c h', Fr h₀ L h' m → News h₀ L h' ((D, PySem.W.listOf vs'.toArray c) :: news) → (∀ q ∈ news, @LT.lt Nat _ q.1 D) → IntsAre vs' ns' → ns'.Perm (ks A1 ++ ks A2) → ns'.Pairwise (· ≤ ·) → Q (.ref D) { s with heap := h' }) :
    wpAny (model prog w) A (call (.builtin "sorted") [.ref l]) Q E s :=
  PySem.W.kso_sorted F N (t_list N hm) hi (by have e1 := q1.length_eq; have e2 := q2.length_eq; simp only [ks, List.length_map, List.length_append] at e1 e2 ⊢; omega) fun D vs' ns' c h' F' N' l1 i' _ p' o' _ => h D vs' ns' c h' F' N' l1 i' (p'.trans (q1.append q2)) o'
theorem t_add (F : Fr h₀ L s.heap m) (N : News h₀ L s.heap news) {c c' : Nat} (ha : (a, PySem.W.listOf vs.toArray c) ∈ news) (hb : (b, PySem.W.listOf us.toArray c') ∈ news) (hi : IntsAre vs ns) (hj : IntsAre us ms) (q1 : ns.Perm (ks A1)) (q2 : ms.Perm (ks A2)) (z1 : A1.length ≤ 20) (z2 : A2.length ≤ 20)
    (h : ∀ D us h', Fr h₀ L h' m → News h₀ L h' ((D, PySem.W.listOf (List.toArray us) 0) :: news) → (∀ p ∈ news, @LT.lt Nat _ p.1 D) → IntsAre us (ns ++ ms) → Q (.ref D) { s with heap := h' }) : wpAny (model prog w) A (binaryOp .Add (.ref a) (.ref b)) Q E s :=
  PySem.W.kmk_add_ints F N (t_list N ha) (t_list N hb) hi hj h (by have e1 := q1.length_eq; have e2 := q2.length_eq; simp only [ks, List.length_map] at e1 e2; rw [sizeLine_eq]; omega)
theorem t_ne (T : Tan A1 A2 A3 p q) (N : News h₀ L s.heap news) {c c' : Nat} (ha : (a, PySem.W.listOf vs.toArray c) ∈ news) (hb : (b, PySem.W.listOf us.toArray c') ∈ news) (hi : IntsAre vs ns) (hj : IntsAre us ms) (p1 : ns.Perm (ks A1 ++ ks A2)) (o1 : ns.Pairwise (· ≤ ·)) (p2 : ms.Perm (ks A3)) (o2 : ms.Pairwise (· ≤ ·)) (hu : A.units + 64 < cLine)
    (h : Q (.bool false) s) : wpAny (model prog w) A (compareOp .NotEq (.ref a) (.ref b)) Q E s := by
  refine PySem.W.ne_intsK (t_list N ha) hi (t_list N hb) hj hu ?_
  have e : ns = ms := PySem.W.ksm_same (p1.trans (List.perm_append_comm.trans (by rw [← ks_append, ← T.eq]; exact p2.symm))) o1 o2
  rw [decide_eq_true e]
  exact h
end
local macro_rules | `(tactic| walk_at "binaryOp Add ref ref") => `(tactic| (k_here; (with_reducible show wpAny _ _ (binaryOp _ (Value.ref _) (Value.ref _)) _ _ _); k_dflt (refine' t_add ?zqF ?zqN ?zqa ?zqb ?zqi ?zqj ?zqq1 ?zqq2 ?zqz1 ?zqz2 ?_; (case zqF => k_asm); (case zqN => k_asm); (case zqa => k_mem); (case zqb => k_mem); (case zqi => assumption); (case zqj => assumption); (case zqq1 => assumption); (case zqq2 => assumption); (case zqz1 => omega); (case zqz2 => omega)); intro D9 us9 h9 F9 N9 lt9 I9; (simp only [List.forall_mem_cons, List.not_mem_nil, false_implies, implies_true, and_true] at lt9); (try dsimp only)))
local macro_rules | `(tactic| walk_at "call builtin:sorted") => `(tactic| (k_here; (with_reducible show wpAny _ _ (call (Value.builtin "sorted") [Value.ref _]) _ _ _); k_dflt (refine' t_sorted ?zqF ?zqN ?zqm ?zqi ?zqq1 ?zqq2 ?zqz1 ?zqz2 ?_; (case zqF => k_asm); (case zqN => k_asm); (case zqm => k_mem); (case zqi => assumption); (case zqq1 => assumption); (case zqq2 => assumption); (case zqz1 => omega); (case zqz2 => omega)); intro D9 vs9 ns9 cc9 h9 F9 N9 lt9 I9 pp9 ww9; (simp only [List.forall_mem_cons, List.not_mem_nil, false_implies, implies_true, and_true] at lt9); (try dsimp only)))
local macro_rules | `(tactic| walk_at "compareOp NotEq ref ref") => `(tactic| (k_here; (with_reducible show wpAny _ _ (compareOp CmpOp.NotEq (Value.ref _) (Value.ref _)) _ _ _); k_dflt (refine' t_ne ?zqT ?zqN ?zqa ?zqb ?zqi ?zqj ?zqq1 ?zqo1 ?zqq2 ?zqo2 ?zqhu ?_; (case zqT => assumption); (case zqN => k_asm); (case zqa => k_mem); (case zqb => k_mem); (case zqi => assumption); (case zqj => assumption); (case zqq1 => assumption); (case zqo1 => assumption); (case zqq2 => assumption); (case zqo2 => assumption); (case zqhu => ktr_units))))
section
variable {w : World} {mean : ExcName → Option Value} {mg mb : Str → Option Value} {h₀ : Heap} {L fa : Addr} {ccd : Value} {s : Shared} {Q : Flow → Shared → Prop} {E : Value → Shared → Prop}
variable {params : Arguments} {body : List Stmt} {scope : Scope} {kd ln I : Addr} {okd it : Obj} {K : List (Int × Value)} {vs : List Value} {ns : List Int} {t1 t2 tk t4 t5 : Tok} {rest : Str → Option Value} {k kind key : Int} {tail : List Stmt}
variable {c1 dx1 da1 oa1 : Addr} {od1 oo1 : Obj} {A1 : List (Int × Int)} {D1 O1 : List (Int × Value)} {u1 v1 w1 x1 y1 z1 : Tok}
variable {c2 dx2 da2 oa2 : Addr} {od2 oo2 : Obj} {A2 : List (Int × Int)} {D2 O2 : List (Int × Value)} {u2 v2 w2 x2 y2 z2 : Tok}
variable {c3 dx3 da3 oa3 : Addr} {od3 oo3 : Obj} {A3 : List (Int × Int)} {D3 O3 : List (Int × Value)} {u3 v3 w3 x3 y3 z3 : Tok}
variable {p1 p2 p3 : Nat} {v : Int}
variable (lit : fdOf (stFn 35 none) = some (params, body, scope)) (B : Below callerA h₀ [] h₀) (F : Fr h₀ L s.heap (mI kd c1 c2 c3 ln p1 p2 t1 t2 rest)) (X : (KF w.params).In h₀) (T : Top qv (looseW qv lo) mean mg mb h₀)
  (N : News h₀ L s.heap ((I, it) :: wL kd okd (cL c3 dx3 da3 oa3 (dictOf (cEs w.params da3 oa3 ((A3).length : Int) (p3 : Int) u3 v3 w3 x3 y3 z3) 4) od3 oo3) (cL c2 dx2 da2 oa2 (dictOf (cEs w.params da2 oa2 ((A2).length : Int) (p2 : Int) u2 v2 w2 x2 y2 z2) 4) od2 oo2) (cL c1 dx1 da1 oa1 (dictOf (cEs w.params da1 oa1 ((A1).length : Int) (p1 : Int) u1 v1 w1 x1 y1 z1) 4) od1 oo1) ln vs))
  (hd1 : od1.IsDictOf (intKind PW w) D1) (ho1 : oo1.IsDictOf (intKind PW w) O1) (la1 : (da1 == sysModules) = false) (lb1 : (oa1 == sysModules) = false) (a1 : @LT.lt Nat _ dx1 c1) (b1 : @LT.lt Nat _ c1 da1) (e1 : @LT.lt Nat _ da1 oa1) (R1 : Rel A1 D1 O1) (P1 : 1 ≤ p1) (Q1 : p1 ≤ 6) (le1 : A1.length ≤ p1)
  (hd2 : od2.IsDictOf (intKind PW w) D2) (ho2 : oo2.IsDictOf (intKind PW w) O2) (la2 : (da2 == sysModules) = false) (lb2 : (oa2 == sysModules) = false) (a2 : @LT.lt Nat _ dx2 c2) (b2 : @LT.lt Nat _ c2 da2) (e2 : @LT.lt Nat _ da2 oa2) (R2 : Rel A2 D2 O2) (P2 : 1 ≤ p2) (Q2 : p2 ≤ 6) (le2 : A2.length ≤ p2)
  (hd3 : od3.IsDictOf (intKind PW w) D3) (ho3 : oo3.IsDictOf (intKind PW w) O3) (la3 : (da3 == sysModules) = false) (lb3 : (oa3 == sysModules) = false) (a3 : @LT.lt Nat _ dx3 c3) (b3 : @LT.lt Nat _ c3 da3) (e3 : @LT.lt Nat _ da3 oa3) (R3 : Rel A3 D3 O3) (P3 : 1 ≤ p3) (Q3 : p3 ≤ 6) (le3 : A3.length ≤ p3)
  (hkd : okd.IsDictOf (intKind PW w) K) (lk : (kd == sysModules) = false) (zk : K.length ≤ 100) (hv : IntsAre vs ns) (f0 : @LT.lt Nat _ ln dx1) (f1 : @LT.lt Nat _ oa1 dx2) (f2 : @LT.lt Nat _ oa2 dx3) (f3 : @LT.lt Nat _ oa3 kd) (f4 : @LT.lt Nat _ kd I)
  (T3 : Tan A1 A2 A3 p1 p2) (K3 : Kn A3 K) (p12 : p3 = p1 + p2) (k0 : 2 ≤ k) (k1 : k + 1 < ns.length) (k2 : ns.length ≤ 40)
  (hcont : ∀ h' tk', Fr h₀ L h' (mI kd c1 c2 c3 ln p1 p2 t1 t2 rest) → News h₀ L h' ((I, it) :: wL kd okd (cL c3 dx3 da3 oa3 (dictOf (cEs w.params da3 oa3 ((A3).length : Int) (p3 : Int) u3 v3 w3 x3 y3 z3) 4) od3 oo3) (cL c2 dx2 da2 oa2 (dictOf (cEs w.params da2 oa2 ((A2).length : Int) (p2 : Int) u2 v2 w2 x2 y2 z2) 4) od2 oo2) (cL c1 dx1 da1 oa1 (dictOf (cEs w.params da1 oa1 ((A1).length : Int) (p1 : Int) u1 v1 w1 x1 y1 z1) 4) od1 oo1) ln vs) → Q .next { s with heap := h', toks := tk' })
include lit B F X T N hd1 ho1 la1 lb1 a1 b1 e1 R1 P1 Q1 le1 hd2 ho2 la2 lb2 a2 b2 e2 R2 P2 Q2 le2 hd3 ho3 la3 lb3 a3 b3 e3 R3 P3 Q3 le3 hkd lk zk hv f0 f1 f2 f3 f4 T3 K3 p12 k0 k1 k2 hcont
theorem t_end :
    wpAny (model PW w) (callerA.deeper (envOf (Str.ofString "law") scope L fa ccd)) (execs ((forB body).drop 3) (envOf (Str.ofString "law") scope L fa ccd)) Q E s := by
  have e := lit_in lit (by rfl)
  cases e
  clear lit
  show wpAny _ _ (execs (Stmt.If _ _ _ _ :: []) _) _ _ _
  unfold mI at F
  simp only [wL, cL, List.cons_append, List.nil_append] at N
  k_steps
  all_goals (first | exact hcont _ _ (by assumption) (n_sub (by assumption) (by simp only [wL, cL, List.cons_append, List.nil_append]; repeat' first | exact List.forall_mem_nil _ | (refine List.forall_mem_cons.mpr ⟨?_, ?_⟩; (focus kcj_m)))) | w_report)
end
end
-- part J1
section
theorem forB_eq {params : Arguments} {body : List Stmt} {scope : Scope} (lit : fdOf (stFn 35 none) = some (params, body, scope)) : forB body = (forB body).getD 0 (.Pass ⟨0, 0, 0, 0⟩) :: (forB body).getD 1 (.Pass ⟨0, 0, 0, 0⟩) :: (forB body).getD 2 (.Pass ⟨0, 0, 0, 0⟩) :: (forB body).drop 3 := by
  have e := lit_in lit (by rfl)
  cases e
  rfl
section
variable {w : World} {mean : ExcName → Option Value} {mg mb : Str → Option Value} {h₀ : Heap} {L fa : Addr} {ccd : Value} {s : Shared} {Q : Flow → Shared → Prop} {E : Value → Shared → Prop}
variable {params : Arguments} {body : List Stmt} {scope : Scope} {kd ln I : Addr} {okd it : Obj} {K : List (Int × Value)} {vs : List Value} {ns : List Int} {t1 t2 tk t4 t5 : Tok} {rest : Str → Option Value} {k kind key : Int} {tail : List Stmt}
variable {c1 dx1 da1 oa1 : Addr} {od1 oo1 : Obj} {A1 : List (Int × Int)} {D1 O1 : List (Int × Value)} {u1 v1 w1 x1 y1 z1 : Tok}
variable {c2 dx2 da2 oa2 : Addr} {od2 oo2 : Obj} {A2 : List (Int × Int)} {D2 O2 : List (Int × Value)} {u2 v2 w2 x2 y2 z2 : Tok}
variable {c3 dx3 da3 oa3 : Addr} {od3 oo3 : Obj} {A3 : List (Int × Int)} {D3 O3 : List (Int × Value)} {u3 v3 w3 x3 y3 z3 : Tok}
variable {p1 p2 p3 : Nat} {v : Int}
variable (lit : fdOf (stFn 35 none) = some (params, body, scope)) (B : Below callerA h₀ [] h₀) (F : Fr h₀ L s.heap (fun y => if y = Str.ofString "k" then some (.int k tk) else mI kd c1 c2 c3 ln p1 p2 t1 t2 rest y)) (X : (KF w.params).In h₀) (T : Top qv (looseW qv lo) mean mg mb h₀)
  (N : News h₀ L s.heap ((I, it) :: wL kd okd (cL c3 dx3 da3 oa3 (dictOf (cEs w.params da3 oa3 ((A3).length : Int) (p3 : Int) u3 v3 w3 x3 y3 z3) 4) od3 oo3) (cL c2 dx2 da2 oa2 (dictOf (cEs w.params da2 oa2 ((A2).length : Int) (p2 : Int) u2 v2 w2 x2 y2 z2) 4) od2 oo2) (cL c1 dx1 da1 oa1 (dictOf (cEs w.params da1 oa1 ((A1).length : Int) (p1 : Int) u1 v1 w1 x1 y1 z1) 4) od1 oo1) ln vs))
  (hd1 : od1.IsDictOf (intKind PW w) D1) (ho1 : oo1.IsDictOf (intKind PW w) O1) (la1 : (da1 == sysModules) = false) (lb1 : (oa1 == sysModules) = false) (a1 : @LT.lt Nat _ dx1 c1) (b1 : @LT.lt Nat _ c1 da1) (e1 : @LT.lt Nat _ da1 oa1) (R1 : Rel A1 D1 O1) (P1 : 1 ≤ p1) (Q1 : p1 ≤ 6) (le1 : A1.length ≤ p1)
  (hd2 : od2.IsDictOf (intKind PW w) D2) (ho2 : oo2.IsDictOf (intKind PW w) O2) (la2 : (da2 == sysModules) = false) (lb2 : (oa2 == sysModules) = false) (a2 : @LT.lt Nat _ dx2 c2) (b2 : @LT.lt Nat _ c2 da2) (e2 : @LT.lt Nat _ da2 oa2) (R2 : Rel A2 D2 O2) (P2 : 1 ≤ p2) (Q2 : p2 ≤ 6) (le2 : A2.length ≤ p2)
  (hd3 : od3.IsDictOf (intKind PW w) D3) (ho3 : oo3.IsDictOf (intKind PW w) O3) (la3 : (da3 == sysModules) = false) (lb3 : (oa3 == sysModules) = false) (a3 : @LT.lt Nat _ dx3 c3) (b3 : @LT.lt Nat _ c3 da3) (e3 : @LT.lt Nat _ da3 oa3) (R3 : Rel A3 D3 O3) (P3 : 1 ≤ p3) (Q3 : p3 ≤ 6) (le3 : A3.length ≤ p3)
  (hkd : okd.IsDictOf (intKind PW w) K) (lk : (kd == sysModules) = false) (zk : K.length ≤ 99) (hv : IntsAre vs ns) (f0 : @LT.lt Nat _ ln dx1) (f1 : @LT.lt Nat _ oa1 dx2) (f2 : @LT.lt Nat _ oa2 dx3) (f3 : @LT.lt Nat _ oa3 kd) (f4 : @LT.lt Nat _ kd I)
  (T3 : Tan A1 A2 A3 p1 p2) (K3 : Kn A3 K) (p12 : p3 = p1 + p2) (k0 : 2 ≤ k) (k1 : k + 1 < ns.length) (k2 : ns.length ≤ 40)
  (hE : PassesOwn (model PW w) (callerA.deeper (envOf (Str.ofString "law") scope L fa ccd)) (envOf (Str.ofString "law") scope L fa ccd) E)
  (hcont : ∀ h' tk', Mid w h₀ L I it kd ln vs p1 p2 p3 t1 t2 c1 dx1 da1 oa1 c2 dx2 da2 oa2 c3 dx3 da3 oa3 u1 v1 x1 y1 z1 u2 v2 x2 y2 z2 u3 v3 x3 y3 z3 (K.length + 1) { s with heap := h', toks := tk' } → Q .next { s with heap := h', toks := tk' })
include lit B F X T N hd1 ho1 la1 lb1 a1 b1 e1 R1 P1 Q1 le1 hd2 ho2 la2 lb2 a2 b2 e2 R2 P2 Q2 le2 hd3 ho3 la3 lb3 a3 b3 e3 R3 P3 Q3 le3 hkd lk zk hv f0 f1 f2 f3 f4 T3 K3 p12 k0 k1 k2 hE hcont
theorem turn_ok : wpAny (model PW w) (callerA.deeper (envOf (Str.ofString "law") scope L fa ccd)) (execs (forB body) (envOf (Str.ofString "law") scope L fa ccd)) Q E s := by
  rw [forB_eq lit]
  refine t_pre lit B F X T N hd1 ho1 la1 lb1 a1 b1 e1 R1 P1 Q1 le1 hd2 ho2 la2 lb2 a2 b2 e2 R2 P2 Q2 le2 hd3 ho3 la3 lb3 a3 b3 e3 R3 P3 Q3 le3 hkd lk (by omega) hv f0 f1 f2 f3 f4 T3 K3 p12 k0 k1 k2 fun h1 tk1 t4 t5 F1 N1 => ?_
  have hc : ∀ h' tk', Mid w h₀ L I it kd ln vs p1 p2 p3 t1 t2 c1 dx1 da1 oa1 c2 dx2 da2 oa2 c3 dx3 da3 oa3 u1 v1 x1 y1 z1 u2 v2 x2 y2 z2 u3 v3 x3 y3 z3 (K.length + 1) { s with heap := h', toks := tk' } → wpAny (model PW w) (callerA.deeper (envOf (Str.ofString "law") scope L fa ccd)) (execs ((forB body).drop 3) (envOf (Str.ofString "law") scope L fa ccd)) Q E { s with heap := h', toks := tk' } := by
    intro h2 tk2 hm
    obtain ⟨rest', od1', oo1', A1', D1', O1', w1', od2', oo2', A2', D2', O2', w2', od3', oo3', A3', D3', O3', w3', okd', K', T', R1', R2', R3', Kn', F', N', hd1', ho1', hd2', ho2', hd3', ho3', hkd', hz'⟩ := hm
    exact t_end lit B F' X T N' hd1' ho1' la1 lb1 a1 b1 e1 R1' P1 Q1 T'.la hd2' ho2' la2 lb2 a2 b2 e2 R2' P2 Q2 T'.lb hd3' ho3' la3 lb3 a3 b3 e3 R3' P3 Q3 (by have := T'.lc; omega) hkd' lk (by omega) hv f0 f1 f2 f3 f4 T' Kn' p12 k0 k1 k2 (fun h3 tk3 F3 N3 => hcont _ _ ⟨rest', od1', oo1', A1', D1', O1', w1', od2', oo2', A2', D2', O2', w2', od3', oo3', A3', D3', O3', w3', okd', K', T', R1', R2', R3', Kn', F3, N3, hd1', ho1', hd2', ho2', hd3', ho3', hkd', hz'⟩)
  generalize hkind : ((ns.getD k.toNat 0).fmod 9) = kind at F1
  generalize hkey : ((ns.getD (k + 1).toNat 0).fmod 7) = key at F1
  by_cases c6 : kind < 6
  · by_cases i3 : key ∈ ks A3
    · obtain ⟨⟨key', v⟩, h3, e⟩ := List.mem_map.mp i3
      have e : key' = key := e
      subst e
      rcases T3.mem.mp i3 with i2 | i1
      · exact path_y lit B F1 X T N1 hd1 ho1 la1 lb1 a1 b1 e1 R1 P1 Q1 le1 hd2 ho2 la2 lb2 a2 b2 e2 R2 P2 Q2 le2 hd3 ho3 la3 lb3 a3 b3 e3 R3 P3 Q3 le3 hkd lk (by omega) hv f0 f1 f2 f3 f4 T3 K3 p12 k0 k1 k2 hc c6 i2 h3
      · exact path_x lit B F1 X T N1 hd1 ho1 la1 lb1 a1 b1 e1 R1 P1 Q1 le1 hd2 ho2 la2 lb2 a2 b2 e2 R2 P2 Q2 le2 hd3 ho3 la3 lb3 a3 b3 e3 R3 P3 Q3 le3 hkd lk (by omega) hv f0 f1 f2 f3 f4 T3 K3 p12 k0 k1 k2 hc c6 i1 h3
    · exact path_z lit B F1 X T N1 hd1 ho1 la1 lb1 a1 b1 e1 R1 P1 Q1 le1 hd2 ho2 la2 lb2 a2 b2 e2 R2 P2 Q2 le2 hd3 ho3 la3 lb3 a3 b3 e3 R3 P3 Q3 le3 hkd lk (by omega) hv f0 f1 f2 f3 f4 T3 K3 p12 k0 k1 k2 hc c6 i3
  · by_cases e6 : kind = 6
    · by_cases i2 : key ∈ ks A2
      · obtain ⟨⟨key', v⟩, h2, e⟩ := List.mem_map.mp i2
        have e : key' = key := e
        subst e
        exact path_s lit B F1 X T N1 hd1 ho1 la1 lb1 a1 b1 e1 R1 P1 Q1 le1 hd2 ho2 la2 lb2 a2 b2 e2 R2 P2 Q2 le2 hd3 ho3 la3 lb3 a3 b3 e3 R3 P3 Q3 le3 hkd lk (by omega) hv f0 f1 f2 f3 f4 T3 K3 p12 k0 k1 k2 hc e6 h2
      · exact path_u lit B F1 X T N1 hd1 ho1 la1 lb1 a1 b1 e1 R1 P1 Q1 le1 hd2 ho2 la2 lb2 a2 b2 e2 R2 P2 Q2 le2 hd3 ho3 la3 lb3 a3 b3 e3 R3 P3 Q3 le3 hkd lk (by omega) hv f0 f1 f2 f3 f4 T3 K3 p12 k0 k1 k2 hc e6 i2
    · by_cases e7 : kind = 7
      · by_cases i3 : key ∈ ks A3
        · obtain ⟨⟨key', v⟩, h3, e⟩ := List.mem_map.mp i3
          have e : key' = key := e
          subst e
          rcases T3.mem.mp i3 with i2 | i1
          · exact path_b lit B F1 X T N1 hd1 ho1 la1 lb1 a1 b1 e1 R1 P1 Q1 le1 hd2 ho2 la2 lb2 a2 b2 e2 R2 P2 Q2 le2 hd3 ho3 la3 lb3 a3 b3 e3 R3 P3 Q3 le3 hkd lk (by omega) hv f0 f1 f2 f3 f4 T3 K3 p12 k0 k1 k2 hc e7 i2 h3
          · exact path_a lit B F1 X T N1 hd1 ho1 la1 lb1 a1 b1 e1 R1 P1 Q1 le1 hd2 ho2 la2 lb2 a2 b2 e2 R2 P2 Q2 le2 hd3 ho3 la3 lb3 a3 b3 e3 R3 P3 Q3 le3 hkd lk (by omega) hv f0 f1 f2 f3 f4 T3 K3 p12 k0 k1 k2 hc e7 i1 h3
        · exact path_c lit B F1 X T N1 hd1 ho1 la1 lb1 a1 b1 e1 R1 P1 Q1 le1 hd2 ho2 la2 lb2 a2 b2 e2 R2 P2 Q2 le2 hd3 ho3 la3 lb3 a3 b3 e3 R3 P3 Q3 le3 hkd lk (by omega) hv f0 f1 f2 f3 f4 T3 K3 p12 k0 k1 k2 hc e7 i3
      · exact path_d lit B F1 X T N1 hd1 ho1 la1 lb1 a1 b1 e1 R1 P1 Q1 le1 hd2 ho2 la2 lb2 a2 b2 e2 R2 P2 Q2 le2 hd3 ho3 la3 lb3 a3 b3 e3 R3 P3 Q3 le3 hkd lk (by omega) hv f0 f1 f2 f3 f4 T3 K3 p12 k0 k1 k2 hc hE (by omega)
end
end
-- part M0
section
/-- the law's state behind the loop -/
def MidW (w : World) (h₀ : Heap) (L : Addr) (kd ln : Addr) (vs : List Value) (p1 p2 p3 : Nat) (t1 t2 : Tok) (c1 dx1 da1 oa1 c2 dx2 da2 oa2 c3 dx3 da3 oa3 : Addr) (u1 v1 x1 y1 z1 u2 v2 x2 y2 z2 u3 v3 x3 y3 z3 : Tok) (A1 A2 A3 : List (Int × Int)) (s : Shared) : Prop :=
  ∃ rest od1 oo1 D1 O1 w1 od2 oo2 D2 O2 w2 od3 oo3 D3 O3 w3 okd, Rel A1 D1 O1 ∧ Rel A2 D2 O2 ∧ Rel A3 D3 O3 ∧ Fr h₀ L s.heap (mI kd c1 c2 c3 ln p1 p2 t1 t2 rest) ∧ News h₀ L s.heap (wL kd okd (cL c3 dx3 da3 oa3 (dictOf (cEs w.params da3 oa3 ((A3).length : Int) (p3 : Int) u3 v3 w3 x3 y3 z3) 4) od3 oo3) (cL c2 dx2 da2 oa2 (dictOf (cEs w.params da2 oa2 ((A2).length : Int) (p2 : Int) u2 v2 w2 x2 y2 z2) 4) od2 oo2) (cL c1 dx1 da1 oa1 (dictOf (cEs w.params da1 oa1 ((A1).length : Int) (p1 : Int) u1 v1 w1 x1 y1 z1) 4) od1 oo1) ln vs) ∧ od1.IsDictOf (intKind PW w) D1 ∧ oo1.IsDictOf (intKind PW w) O1 ∧ od2.IsDictOf (intKind PW w) D2 ∧ oo2.IsDictOf (intKind PW w) O2 ∧ od3.IsDictOf (intKind PW w) D3 ∧ oo3.IsDictOf (intKind PW w) O3
end
-- part J2
section
section
variable {w : World} {mean : ExcName → Option Value} {mg mb : Str → Option Value} {h₀ : Heap} {L fa : Addr} {ccd : Value} {s : Shared} {Q : Flow → Shared → Prop} {E : Value → Shared → Prop}
variable {params : Arguments} {body : List Stmt} {scope : Scope} {kd ln I : Addr} {vs : List Value} {ns : List Int} {t1 t2 tk t4 t5 : Tok}  {tail : List Stmt}
variable {c1 dx1 da1 oa1 : Addr} {u1 v1 x1 y1 z1 : Tok}
variable {c2 dx2 da2 oa2 : Addr} {u2 v2 x2 y2 z2 : Tok}
variable {c3 dx3 da3 oa3 : Addr} {u3 v3 x3 y3 z3 : Tok}
variable {p1 p2 p3 : Nat} {v : Int}
variable (lit : fdOf (stFn 35 none) = some (params, body, scope)) (B : Below callerA h₀ [] h₀) (X : (KF w.params).In h₀) (T : Top qv (looseW qv lo) mean mg mb h₀) (la1 : (da1 == sysModules) = false) (lb1 : (oa1 == sysModules) = false) (a1 : @LT.lt Nat _ dx1 c1) (b1 : @LT.lt Nat _ c1 da1) (e1 : @LT.lt Nat _ da1 oa1) (P1 : 1 ≤ p1) (Q1 : p1 ≤ 6) (la2 : (da2 == sysModules) = false) (lb2 : (oa2 == sysModules) = false) (a2 : @LT.lt Nat _ dx2 c2) (b2 : @LT.lt Nat _ c2 da2) (e2 : @LT.lt Nat _ da2 oa2) (P2 : 1 ≤ p2) (Q2 : p2 ≤ 6) (la3 : (da3 == sysModules) = false) (lb3 : (oa3 == sysModules) = false) (a3 : @LT.lt Nat _ dx3 c3) (b3 : @LT.lt Nat _ c3 da3) (e3 : @LT.lt Nat _ da3 oa3) (P3 : 1 ≤ p3) (Q3 : p3 ≤ 6) (lk : (kd == sysModules) = false) (hv : IntsAre vs ns) (f0 : @LT.lt Nat _ ln dx1) (f1 : @LT.lt Nat _ oa1 dx2) (f2 : @LT.lt Nat _ oa2 dx3) (f3 : @LT.lt Nat _ oa3 kd) (p12 : p3 = p1 + p2) (hE : PassesOwn (model PW w) (callerA.deeper (envOf (Str.ofString "law") scope L fa ccd)) (envOf (Str.ofString "law") scope L fa ccd) E)
include lit B X T la1 lb1 a1 b1 e1 P1 Q1 la2 lb2 a2 b2 e2 P2 Q2 la3 lb3 a3 b3 e3 P3 Q3 lk hv f0 f1 f2 f3 p12 hE
theorem loop_ok {n : Nat} (k2 : ns.length ≤ 40) (hn : ∀ i < n, 2 + i * 2 + 1 < ns.length) (f4 : @LT.lt Nat _ kd I) (hfin : ∀ h tk A1 A2 A3, Tan A1 A2 A3 p1 p2 → MidW w h₀ L kd ln vs p1 p2 p3 t1 t2 c1 dx1 da1 oa1 c2 dx2 da2 oa2 c3 dx3 da3 oa3 u1 v1 x1 y1 z1 u2 v2 x2 y2 z2 u3 v3 x3 y3 z3 A1 A2 A3 { s with heap := h, toks := tk } → Q .next { s with heap := h, toks := tk }) :
    ∀ j i, i + j = n → ∀ (rest : Str → Option Value) (od1 oo1 : Obj) (A1 : List (Int × Int)) (D1 O1 : List (Int × Value)) (w1 : Tok) (od2 oo2 : Obj) (A2 : List (Int × Int)) (D2 O2 : List (Int × Value)) (w2 : Tok) (od3 oo3 : Obj) (A3 : List (Int × Int)) (D3 O3 : List (Int × Value)) (w3 : Tok) (okd : Obj) (K : List (Int × Value)), Tan A1 A2 A3 p1 p2 → Rel A1 D1 O1 → Rel A2 D2 O2 → Rel A3 D3 O3 → Kn A3 K → od1.IsDictOf (intKind PW w) D1 → oo1.IsDictOf (intKind PW w) O1 → od2.IsDictOf (intKind PW w) D2 → oo2.IsDictOf (intKind PW w) O2 → od3.IsDictOf (intKind PW w) D3 → oo3.IsDictOf (intKind PW w) O3 → okd.IsDictOf (intKind PW w) K → K.length ≤ i →
      KrsRest PW w (callerA.deeper (envOf (Str.ofString "law") scope L fa ccd)) E h₀ (envOf (Str.ofString "law") scope L fa ccd) (Str.ofString "k") (forB body) Q s I 2 2 n j i (mI kd c1 c2 c3 ln p1 p2 t1 t2 rest) (wL kd okd (cL c3 dx3 da3 oa3 (dictOf (cEs w.params da3 oa3 ((A3).length : Int) (p3 : Int) u3 v3 w3 x3 y3 z3) 4) od3 oo3) (cL c2 dx2 da2 oa2 (dictOf (cEs w.params da2 oa2 ((A2).length : Int) (p2 : Int) u2 v2 w2 x2 y2 z2) 4) od2 oo2) (cL c1 dx1 da1 oa1 (dictOf (cEs w.params da1 oa1 ((A1).length : Int) (p1 : Int) u1 v1 w1 x1 y1 z1) 4) od1 oo1) ln vs) := by
  intro j
  induction j with
  | zero =>
    intro i hi rest od1 oo1 A1 D1 O1 w1 od2 oo2 A2 D2 O2 w2 od3 oo3 A3 D3 O3 w3 okd K T3 R1 R2 R3 K3 hd1 ho1 hd2 ho2 hd3 ho3 hkd hz
    exact KrsRest.zero fun h tk F N => hfin h tk A1 A2 A3 T3 ⟨rest, od1, oo1, D1, O1, w1, od2, oo2, D2, O2, w2, od3, oo3, D3, O3, w3, okd, R1, R2, R3, F, N, hd1, ho1, hd2, ho2, hd3, ho3⟩
  | succ j ih =>
    intro i hi rest od1 oo1 A1 D1 O1 w1 od2 oo2 A2 D2 O2 w2 od3 oo3 A3 D3 O3 w3 okd K T3 R1 R2 R3 K3 hd1 ho1 hd2 ho2 hd3 ho3 hkd hz
    have hlt := hn i (by omega)
    have hle : n ≤ 20 := by
      cases n with
      | zero => omega
      | succ n => have := hn n (by omega); omega
    refine KrsRest.succ (v := 2 + (i : Int) * 2) rfl fun t h tk F N => ?_
    refine turn_ok lit B F X T N hd1 ho1 la1 lb1 a1 b1 e1 R1 P1 Q1 T3.la hd2 ho2 la2 lb2 a2 b2 e2 R2 P2 Q2 T3.lb hd3 ho3 la3 lb3 a3 b3 e3 R3 P3 Q3 (by have := T3.lc; omega) hkd lk (by omega) hv f0 f1 f2 f3 f4 T3 K3 p12 (by omega) (by have := hn i (by omega); omega) k2 hE fun h' tk' hm => ?_
    obtain ⟨rest1, od1', oo1', A1', D1', O1', w1', od2', oo2', A2', D2', O2', w2', od3', oo3', A3', D3', O3', w3', okd', K', T', R1', R2', R3', Kn', F', N', hd1', ho1', hd2', ho2', hd3', ho3', hkd', hz'⟩ := hm
    refine ⟨h', tk', _, _, rfl, F', N', ?_, ih (i + 1) (by omega) rest1 od1' oo1' A1' D1' O1' w1' od2' oo2' A2' D2' O2' w2' od3' oo3' A3' D3' O3' w3' okd' K' T' R1' R2' R3' Kn' hd1' ho1' hd2' ho2' hd3' ho3' hkd' (by omega)⟩
    intro p hp
    simp only [wL, cL, List.cons_append, List.nil_append, List.mem_cons, List.not_mem_nil, or_false] at hp
    rcases hp with rfl | rfl | rfl | rfl | rfl | rfl | rfl | rfl | rfl | rfl | rfl | rfl | rfl | rfl <;> (show @Ne Nat _ _) <;> omega
end
end
-- part w_B
section
section
variable {w : World} {mean : ExcName → Option Value} {mg mb : Str → Option Value} {h₀ : Heap} {L fa : Addr} {ccd : Value} {s : Shared} {Q : Flow → Shared → Prop} {E : Value → Shared → Prop}
variable {params : Arguments} {body : List Stmt} {scope : Scope} {kd ln I : Addr} {okd it : Obj} {K : List (Int × Value)} {vs : List Value} {ns : List Int} {t1 t2 tk t4 t5 : Tok} {rest : Str → Option Value} {k kind key : Int} {tail : List Stmt}
variable {c1 dx1 da1 oa1 : Addr} {od1 oo1 : Obj} {A1 : List (Int × Int)} {D1 O1 : List (Int × Value)} {u1 v1 w1 x1 y1 z1 : Tok}
variable {c2 dx2 da2 oa2 : Addr} {od2 oo2 : Obj} {A2 : List (Int × Int)} {D2 O2 : List (Int × Value)} {u2 v2 w2 x2 y2 z2 : Tok}
variable {c3 dx3 da3 oa3 : Addr} {od3 oo3 : Obj} {A3 : List (Int × Int)} {D3 O3 : List (Int × Value)} {u3 v3 w3 x3 y3 z3 : Tok}
variable {p1 p2 p3 : Nat} {v : Int}
variable {k0 v0 : Int} {A1' A2' A3' : List (Int × Int)} {R : Flow → Shared → Prop}
variable (lit : fdOf (stFn 35 none) = some (params, body, scope)) (B : Below callerA h₀ [] h₀) (F : Fr h₀ L s.heap (mI kd c1 c2 c3 ln p1 p2 t1 t2 rest)) (X : (KF w.params).In h₀) (T : Top qv (looseW qv lo) mean mg mb h₀)
  (N : News h₀ L s.heap (wL kd okd (cL c3 dx3 da3 oa3 (dictOf (cEs w.params da3 oa3 ((A3).length : Int) (p3 : Int) u3 v3 w3 x3 y3 z3) 4) od3 oo3) (cL c2 dx2 da2 oa2 (dictOf (cEs w.params da2 oa2 ((A2).length : Int) (p2 : Int) u2 v2 w2 x2 y2 z2) 4) od2 oo2) (cL c1 dx1 da1 oa1 (dictOf (cEs w.params da1 oa1 ((A1).length : Int) (p1 : Int) u1 v1 w1 x1 y1 z1) 4) od1 oo1) ln vs))
  (hd1 : od1.IsDictOf (intKind PW w) D1) (ho1 : oo1.IsDictOf (intKind PW w) O1) (la1 : (da1 == sysModules) = false) (lb1 : (oa1 == sysModules) = false) (a1 : @LT.lt Nat _ dx1 c1) (b1 : @LT.lt Nat _ c1 da1) (e1 : @LT.lt Nat _ da1 oa1) (R1 : Rel A1 D1 O1) (P1 : 1 ≤ p1) (Q1 : p1 ≤ 6) (le1 : A1.length ≤ p1)
  (hd2 : od2.IsDictOf (intKind PW w) D2) (ho2 : oo2.IsDictOf (intKind PW w) O2) (la2 : (da2 == sysModules) = false) (lb2 : (oa2 == sysModules) = false) (a2 : @LT.lt Nat _ dx2 c2) (b2 : @LT.lt Nat _ c2 da2) (e2 : @LT.lt Nat _ da2 oa2) (R2 : Rel A2 D2 O2) (P2 : 1 ≤ p2) (Q2 : p2 ≤ 6) (le2 : A2.length ≤ p2)
  (hd3 : od3.IsDictOf (intKind PW w) D3) (ho3 : oo3.IsDictOf (intKind PW w) O3) (la3 : (da3 == sysModules) = false) (lb3 : (oa3 == sysModules) = false) (a3 : @LT.lt Nat _ dx3 c3) (b3 : @LT.lt Nat _ c3 da3) (e3 : @LT.lt Nat _ da3 oa3) (R3 : Rel A3 D3 O3) (P3 : 1 ≤ p3) (Q3 : p3 ≤ 6) (le3 : A3.length ≤ p3)
   (f0 : @LT.lt Nat _ ln dx1) (f1 : @LT.lt Nat _ oa1 dx2) (f2 : @LT.lt Nat _ oa2 dx3) (f3 : @LT.lt Nat _ oa3 kd) 
  (p12 : p3 = p1 + p2) 
include lit B F X T N hd1 ho1 la1 lb1 a1 b1 e1 R1 P1 Q1 le1 hd2 ho2 la2 lb2 a2 b2 e2 R2 P2 Q2 le2 hd3 ho3 la3 lb3 a3 b3 e3 R3 P3 Q3 le3 f0 f1 f2 f3 p12
theorem w_B (hA3 : A3 = (k0, v0) :: A3') (hA2 : A2 = (k0, v0) :: A2') (hcont : ∀ h' tk', MidW w h₀ L kd ln vs p1 p2 p3 t1 t2 c1 dx1 da1 oa1 c2 dx2 da2 oa2 c3 dx3 da3 oa3 u1 v1 x1 y1 z1 u2 v2 x2 y2 z2 u3 v3 x3 y3 z3 A1 A2' A3' { s with heap := h', toks := tk' } → R .next { s with heap := h', toks := tk' }) :
    wpAny (model PW w) (callerA.deeper (envOf (Str.ofString "law") scope L fa ccd)) (isTrue (whlT body) (envOf (Str.ofString "law") scope L fa ccd) (eval (whlT body) (envOf (Str.ofString "law") scope L fa ccd))) (fun b s₂ => WhlIf b (wpAny (model PW w) (callerA.deeper (envOf (Str.ofString "law") scope L fa ccd)) (execs (whlB body) (envOf (Str.ofString "law") scope L fa ccd)) R E s₂) (wpAny (model PW w) (callerA.deeper (envOf (Str.ofString "law") scope L fa ccd)) (execs [] (envOf (Str.ofString "law") scope L fa ccd)) Q E s₂)) E s := by
  have e := lit_in lit (by rfl)
  cases e
  clear lit
  show wpAny _ _ (isTrue (PySem.Expr.Compare _ _ _ _) _ (eval (PySem.Expr.Compare _ _ _ _) _)) (fun b s₂ => WhlIf b (wpAny _ _ (execs [Stmt.If _ _ _ _] _) _ _ s₂) _) _ _
  unfold mI at F
  simp only [wL, cL, List.cons_append, List.nil_append] at N
  have gt3 : 0 < A3.length := by rw [hA3]; exact Nat.succ_pos _
  have gt2 : 0 < A2.length := by rw [hA2]; exact Nat.succ_pos _
  k_steps
  all_goals (first | exact hcont _ _ ⟨_, _, _, _, _, _, _, _, _, _, _, _, _, _, _, _, _, by assumption, by assumption, by assumption, mI_in (by assumption) rfl rfl rfl rfl rfl rfl rfl, n_sub (by assumption) (by simp only [wL, cL, List.cons_append, List.nil_append]; repeat' first | exact List.forall_mem_nil _ | (refine List.forall_mem_cons.mpr ⟨?_, ?_⟩; (focus kcj_m))), by assumption, by assumption, by assumption, by assumption, by assumption, by assumption⟩ | w_report)
end
end
-- part w_A
section
section
variable {w : World} {mean : ExcName → Option Value} {mg mb : Str → Option Value} {h₀ : Heap} {L fa : Addr} {ccd : Value} {s : Shared} {Q : Flow → Shared → Prop} {E : Value → Shared → Prop}
variable {params : Arguments} {body : List Stmt} {scope : Scope} {kd ln I : Addr} {okd it : Obj} {K : List (Int × Value)} {vs : List Value} {ns : List Int} {t1 t2 tk t4 t5 : Tok} {rest : Str → Option Value} {k kind key : Int} {tail : List Stmt}
variable {c1 dx1 da1 oa1 : Addr} {od1 oo1 : Obj} {A1 : List (Int × Int)} {D1 O1 : List (Int × Value)} {u1 v1 w1 x1 y1 z1 : Tok}
variable {c2 dx2 da2 oa2 : Addr} {od2 oo2 : Obj} {A2 : List (Int × Int)} {D2 O2 : List (Int × Value)} {u2 v2 w2 x2 y2 z2 : Tok}
variable {c3 dx3 da3 oa3 : Addr} {od3 oo3 : Obj} {A3 : List (Int × Int)} {D3 O3 : List (Int × Value)} {u3 v3 w3 x3 y3 z3 : Tok}
variable {p1 p2 p3 : Nat} {v : Int}
variable {k0 v0 : Int} {A1' A2' A3' : List (Int × Int)} {R : Flow → Shared → Prop}
variable (lit : fdOf (stFn 35 none) = some (params, body, scope)) (B : Below callerA h₀ [] h₀) (F : Fr h₀ L s.heap (mI kd c1 c2 c3 ln p1 p2 t1 t2 rest)) (X : (KF w.params).In h₀) (T : Top qv (looseW qv lo) mean mg mb h₀)
  (N : News h₀ L s.heap (wL kd okd (cL c3 dx3 da3 oa3 (dictOf (cEs w.params da3 oa3 ((A3).length : Int) (p3 : Int) u3 v3 w3 x3 y3 z3) 4) od3 oo3) (cL c2 dx2 da2 oa2 (dictOf (cEs w.params da2 oa2 ((A2).length : Int) (p2 : Int) u2 v2 w2 x2 y2 z2) 4) od2 oo2) (cL c1 dx1 da1 oa1 (dictOf (cEs w.params da1 oa1 ((A1).length : Int) (p1 : Int) u1 v1 w1 x1 y1 z1) 4) od1 oo1) ln vs))
  (hd1 : od1.IsDictOf (intKind PW w) D1) (ho1 : oo1.IsDictOf (intKind PW w) O1) (la1 : (da1 == sysModules) = false) (lb1 : (oa1 == sysModules) = false) (a1 : @LT.lt Nat _ dx1 c1) (b1 : @LT.lt Nat _ c1 da1) (e1 : @LT.lt Nat _ da1 oa1) (R1 : Rel A1 D1 O1) (P1 : 1 ≤ p1) (Q1 : p1 ≤ 6) (le1 : A1.length ≤ p1)
  (hd2 : od2.IsDictOf (intKind PW w) D2) (ho2 : oo2.IsDictOf (intKind PW w) O2) (la2 : (da2 == sysModules) = false) (lb2 : (oa2 == sysModules) = false) (a2 : @LT.lt Nat _ dx2 c2) (b2 : @LT.lt Nat _ c2 da2) (e2 : @LT.lt Nat _ da2 oa2) (R2 : Rel A2 D2 O2) (P2 : 1 ≤ p2) (Q2 : p2 ≤ 6) (le2 : A2.length ≤ p2)
  (hd3 : od3.IsDictOf (intKind PW w) D3) (ho3 : oo3.IsDictOf (intKind PW w) O3) (la3 : (da3 == sysModules) = false) (lb3 : (oa3 == sysModules) = false) (a3 : @LT.lt Nat _ dx3 c3) (b3 : @LT.lt Nat _ c3 da3) (e3 : @LT.lt Nat _ da3 oa3) (R3 : Rel A3 D3 O3) (P3 : 1 ≤ p3) (Q3 : p3 ≤ 6) (le3 : A3.length ≤ p3)
   (f0 : @LT.lt Nat _ ln dx1) (f1 : @LT.lt Nat _ oa1 dx2) (f2 : @LT.lt Nat _ oa2 dx3) (f3 : @LT.lt Nat _ oa3 kd) 
  (p12 : p3 = p1 + p2) 
include lit B F X T N hd1 ho1 la1 lb1 a1 b1 e1 R1 P1 Q1 le1 hd2 ho2 la2 lb2 a2 b2 e2 R2 P2 Q2 le2 hd3 ho3 la3 lb3 a3 b3 e3 R3 P3 Q3 le3 f0 f1 f2 f3 p12
theorem w_A (hA3 : A3 = (k0, v0) :: A3') (g2 : A2.length = 0) (hA1 : A1 = (k0, v0) :: A1') (hcont : ∀ h' tk', MidW w h₀ L kd ln vs p1 p2 p3 t1 t2 c1 dx1 da1 oa1 c2 dx2 da2 oa2 c3 dx3 da3 oa3 u1 v1 x1 y1 z1 u2 v2 x2 y2 z2 u3 v3 x3 y3 z3 A1' A2 A3' { s with heap := h', toks := tk' } → R .next { s with heap := h', toks := tk' }) :
    wpAny (model PW w) (callerA.deeper (envOf (Str.ofString "law") scope L fa ccd)) (isTrue (whlT body) (envOf (Str.ofString "law") scope L fa ccd) (eval (whlT body) (envOf (Str.ofString "law") scope L fa ccd))) (fun b s₂ => WhlIf b (wpAny (model PW w) (callerA.deeper (envOf (Str.ofString "law") scope L fa ccd)) (execs (whlB body) (envOf (Str.ofString "law") scope L fa ccd)) R E s₂) (wpAny (model PW w) (callerA.deeper (envOf (Str.ofString "law") scope L fa ccd)) (execs [] (envOf (Str.ofString "law") scope L fa ccd)) Q E s₂)) E s := by
  have e := lit_in lit (by rfl)
  cases e
  clear lit
  show wpAny _ _ (isTrue (PySem.Expr.Compare _ _ _ _) _ (eval (PySem.Expr.Compare _ _ _ _) _)) (fun b s₂ => WhlIf b (wpAny _ _ (execs [Stmt.If _ _ _ _] _) _ _ s₂) _) _ _
  unfold mI at F
  simp only [wL, cL, List.cons_append, List.nil_append] at N
  have gt3 : 0 < A3.length := by rw [hA3]; exact Nat.succ_pos _
  k_steps
  all_goals (first | exact hcont _ _ ⟨_, _, _, _, _, _, _, _, _, _, _, _, _, _, _, _, _, by assumption, by assumption, by assumption, mI_in (by assumption) rfl rfl rfl rfl rfl rfl rfl, n_sub (by assumption) (by simp only [wL, cL, List.cons_append, List.nil_append]; repeat' first | exact List.forall_mem_nil _ | (refine List.forall_mem_cons.mpr ⟨?_, ?_⟩; (focus kcj_m))), by assumption, by assumption, by assumption, by assumption, by assumption, by assumption⟩ | w_report)
end
end
-- part w_Z
section
section
variable {w : World} {mean : ExcName → Option Value} {mg mb : Str → Option Value} {h₀ : Heap} {L fa : Addr} {ccd : Value} {s : Shared} {Q : Flow → Shared → Prop} {E : Value → Shared → Prop}
variable {params : Arguments} {body : List Stmt} {scope : Scope} {kd ln I : Addr} {okd it : Obj} {K : List (Int × Value)} {vs : List Value} {ns : List Int} {t1 t2 tk t4 t5 : Tok} {rest : Str → Option Value} {k kind key : Int} {tail : List Stmt}
variable {c1 dx1 da1 oa1 : Addr} {od1 oo1 : Obj} {A1 : List (Int × Int)} {D1 O1 : List (Int × Value)} {u1 v1 w1 x1 y1 z1 : Tok}
variable {c2 dx2 da2 oa2 : Addr} {od2 oo2 : Obj} {A2 : List (Int × Int)} {D2 O2 : List (Int × Value)} {u2 v2 w2 x2 y2 z2 : Tok}
variable {c3 dx3 da3 oa3 : Addr} {od3 oo3 : Obj} {A3 : List (Int × Int)} {D3 O3 : List (Int × Value)} {u3 v3 w3 x3 y3 z3 : Tok}
variable {p1 p2 p3 : Nat} {v : Int}
variable {k0 v0 : Int} {A1' A2' A3' : List (Int × Int)} {R : Flow → Shared → Prop}
variable (lit : fdOf (stFn 35 none) = some (params, body, scope)) (B : Below callerA h₀ [] h₀) (F : Fr h₀ L s.heap (mI kd c1 c2 c3 ln p1 p2 t1 t2 rest)) (X : (KF w.params).In h₀) (T : Top qv (looseW qv lo) mean mg mb h₀)
  (N : News h₀ L s.heap (wL kd okd (cL c3 dx3 da3 oa3 (dictOf (cEs w.params da3 oa3 ((A3).length : Int) (p3 : Int) u3 v3 w3 x3 y3 z3) 4) od3 oo3) (cL c2 dx2 da2 oa2 (dictOf (cEs w.params da2 oa2 ((A2).length : Int) (p2 : Int) u2 v2 w2 x2 y2 z2) 4) od2 oo2) (cL c1 dx1 da1 oa1 (dictOf (cEs w.params da1 oa1 ((A1).length : Int) (p1 : Int) u1 v1 w1 x1 y1 z1) 4) od1 oo1) ln vs))
  (hd1 : od1.IsDictOf (intKind PW w) D1) (ho1 : oo1.IsDictOf (intKind PW w) O1) (la1 : (da1 == sysModules) = false) (lb1 : (oa1 == sysModules) = false) (a1 : @LT.lt Nat _ dx1 c1) (b1 : @LT.lt Nat _ c1 da1) (e1 : @LT.lt Nat _ da1 oa1) (R1 : Rel A1 D1 O1) (P1 : 1 ≤ p1) (Q1 : p1 ≤ 6) (le1 : A1.length ≤ p1)
  (hd2 : od2.IsDictOf (intKind PW w) D2) (ho2 : oo2.IsDictOf (intKind PW w) O2) (la2 : (da2 == sysModules) = false) (lb2 : (oa2 == sysModules) = false) (a2 : @LT.lt Nat _ dx2 c2) (b2 : @LT.lt Nat _ c2 da2) (e2 : @LT.lt Nat _ da2 oa2) (R2 : Rel A2 D2 O2) (P2 : 1 ≤ p2) (Q2 : p2 ≤ 6) (le2 : A2.length ≤ p2)
  (hd3 : od3.IsDictOf (intKind PW w) D3) (ho3 : oo3.IsDictOf (intKind PW w) O3) (la3 : (da3 == sysModules) = false) (lb3 : (oa3 == sysModules) = false) (a3 : @LT.lt Nat _ dx3 c3) (b3 : @LT.lt Nat _ c3 da3) (e3 : @LT.lt Nat _ da3 oa3) (R3 : Rel A3 D3 O3) (P3 : 1 ≤ p3) (Q3 : p3 ≤ 6) (le3 : A3.length ≤ p3)
   (f0 : @LT.lt Nat _ ln dx1) (f1 : @LT.lt Nat _ oa1 dx2) (f2 : @LT.lt Nat _ oa2 dx3) (f3 : @LT.lt Nat _ oa3 kd) 
  (p12 : p3 = p1 + p2) 
include lit B F X T N hd1 ho1 la1 lb1 a1 b1 e1 R1 P1 Q1 le1 hd2 ho2 la2 lb2 a2 b2 e2 R2 P2 Q2 le2 hd3 ho3 la3 lb3 a3 b3 e3 R3 P3 Q3 le3 f0 f1 f2 f3 p12
theorem w_Z (g3 : A3.length = 0) (hcont : ∀ h' tk', MidW w h₀ L kd ln vs p1 p2 p3 t1 t2 c1 dx1 da1 oa1 c2 dx2 da2 oa2 c3 dx3 da3 oa3 u1 v1 x1 y1 z1 u2 v2 x2 y2 z2 u3 v3 x3 y3 z3 A1 A2 A3 { s with heap := h', toks := tk' } → Q .next { s with heap := h', toks := tk' }) :
    wpAny (model PW w) (callerA.deeper (envOf (Str.ofString "law") scope L fa ccd)) (isTrue (whlT body) (envOf (Str.ofString "law") scope L fa ccd) (eval (whlT body) (envOf (Str.ofString "law") scope L fa ccd))) (fun b s₂ => WhlIf b (wpAny (model PW w) (callerA.deeper (envOf (Str.ofString "law") scope L fa ccd)) (execs (whlB body) (envOf (Str.ofString "law") scope L fa ccd)) R E s₂) (wpAny (model PW w) (callerA.deeper (envOf (Str.ofString "law") scope L fa ccd)) (execs [] (envOf (Str.ofString "law") scope L fa ccd)) Q E s₂)) E s := by
  have e := lit_in lit (by rfl)
  cases e
  clear lit
  show wpAny _ _ (isTrue (PySem.Expr.Compare _ _ _ _) _ (eval (PySem.Expr.Compare _ _ _ _) _)) (fun b s₂ => WhlIf b (wpAny _ _ (execs [Stmt.If _ _ _ _] _) _ _ s₂) _) _ _
  unfold mI at F
  simp only [wL, cL, List.cons_append, List.nil_append] at N
  k_steps
  all_goals (first | exact hcont _ _ ⟨_, _, _, _, _, _, _, _, _, _, _, _, _, _, _, _, _, by assumption, by assumption, by assumption, mI_in (by assumption) rfl rfl rfl rfl rfl rfl rfl, n_sub (by assumption) (by simp only [wL, cL, List.cons_append, List.nil_append]; repeat' first | exact List.forall_mem_nil _ | (refine List.forall_mem_cons.mpr ⟨?_, ?_⟩; (focus kcj_m))), by assumption, by assumption, by assumption, by assumption, by assumption, by assumption⟩ | w_report)
end
end
-- part J3
section
section
variable {w : World} {mean : ExcName → Option Value} {mg mb : Str → Option Value} {h₀ : Heap} {L fa : Addr} {ccd : Value} {s : Shared} {Q : Flow → Shared → Prop} {E : Value → Shared → Prop}
variable {params : Arguments} {body : List Stmt} {scope : Scope} {kd ln I : Addr} {vs : List Value} {ns : List Int} {t1 t2 tk t4 t5 : Tok}  {tail : List Stmt}
variable {c1 dx1 da1 oa1 : Addr} {u1 v1 x1 y1 z1 : Tok}
variable {c2 dx2 da2 oa2 : Addr} {u2 v2 x2 y2 z2 : Tok}
variable {c3 dx3 da3 oa3 : Addr} {u3 v3 x3 y3 z3 : Tok}
variable {p1 p2 p3 : Nat} {v : Int}
variable (lit : fdOf (stFn 35 none) = some (params, body, scope)) (B : Below callerA h₀ [] h₀) (X : (KF w.params).In h₀) (T : Top qv (looseW qv lo) mean mg mb h₀) (la1 : (da1 == sysModules) = false) (lb1 : (oa1 == sysModules) = false) (a1 : @LT.lt Nat _ dx1 c1) (b1 : @LT.lt Nat _ c1 da1) (e1 : @LT.lt Nat _ da1 oa1) (P1 : 1 ≤ p1) (Q1 : p1 ≤ 6) (la2 : (da2 == sysModules) = false) (lb2 : (oa2 == sysModules) = false) (a2 : @LT.lt Nat _ dx2 c2) (b2 : @LT.lt Nat _ c2 da2) (e2 : @LT.lt Nat _ da2 oa2) (P2 : 1 ≤ p2) (Q2 : p2 ≤ 6) (la3 : (da3 == sysModules) = false) (lb3 : (oa3 == sysModules) = false) (a3 : @LT.lt Nat _ dx3 c3) (b3 : @LT.lt Nat _ c3 da3) (e3 : @LT.lt Nat _ da3 oa3) (P3 : 1 ≤ p3) (Q3 : p3 ≤ 6) (f0 : @LT.lt Nat _ ln dx1) (f1 : @LT.lt Nat _ oa1 dx2) (f2 : @LT.lt Nat _ oa2 dx3) (f3 : @LT.lt Nat _ oa3 kd) (p12 : p3 = p1 + p2) (hE : PassesOwn (model PW w) (callerA.deeper (envOf (Str.ofString "law") scope L fa ccd)) (envOf (Str.ofString "law") scope L fa ccd) E)
include lit B X T la1 lb1 a1 b1 e1 P1 Q1 la2 lb2 a2 b2 e2 P2 Q2 la3 lb3 a3 b3 e3 P3 Q3 f0 f1 f2 f3 p12 hE
theorem while_ok {kk : Nat} (hfin : ∀ h tk A1 A2 A3, A1.length = 0 → A2.length = 0 → MidW w h₀ L kd ln vs p1 p2 p3 t1 t2 c1 dx1 da1 oa1 c2 dx2 da2 oa2 c3 dx3 da3 oa3 u1 v1 x1 y1 z1 u2 v2 x2 y2 z2 u3 v3 x3 y3 z3 A1 A2 A3 { s with heap := h, toks := tk } → Q .next { s with heap := h, toks := tk }) :
    ∀ n h tk (A1 A2 A3 : List (Int × Int)), A3.length = n → Tan A1 A2 A3 p1 p2 → MidW w h₀ L kd ln vs p1 p2 p3 t1 t2 c1 dx1 da1 oa1 c2 dx2 da2 oa2 c3 dx3 da3 oa3 u1 v1 x1 y1 z1 u2 v2 x2 y2 z2 u3 v3 x3 y3 z3 A1 A2 A3 { s with heap := h, toks := tk } → WhlRest PW w (callerA.deeper (envOf (Str.ofString "law") scope L fa ccd)) E (envOf (Str.ofString "law") scope L fa ccd) (whlT body) (whlB body) [] Q kk { s with heap := h, toks := tk } := by
  intro n
  induction n with
  | zero =>
    intro h tk A1 A2 A3 hl T3 hm
    obtain ⟨rest, od1, oo1, D1, O1, w1, od2, oo2, D2, O2, w2, od3, oo3, D3, O3, w3, okd, R1, R2, R3, F, N, hd1, ho1, hd2, ho2, hd3, ho3⟩ := hm
    have hl' : A3.length = A2.length + A1.length := by rw [T3.eq, List.length_append]
    show WhlRest _ _ _ _ _ _ _ _ _ (0 + 1) _
    exact whl_turn hE (w_Z lit B F X T N hd1 ho1 la1 lb1 a1 b1 e1 R1 P1 Q1 T3.la hd2 ho2 la2 lb2 a2 b2 e2 R2 P2 Q2 T3.lb hd3 ho3 la3 lb3 a3 b3 e3 R3 P3 Q3 (by have := T3.lc; omega) f0 f1 f2 f3 p12 hl fun h' tk' hm' => hfin h' tk' A1 A2 A3 (by omega) (by omega) hm')
  | succ n ih =>
    intro h tk A1 A2 A3 hl T3 hm
    obtain ⟨rest, od1, oo1, D1, O1, w1, od2, oo2, D2, O2, w2, od3, oo3, D3, O3, w3, okd, R1, R2, R3, F, N, hd1, ho1, hd2, ho2, hd3, ho3⟩ := hm
    obtain ⟨⟨k0, v0⟩, A3', hA3⟩ : ∃ q t, A3 = q :: t := by
      cases A3 with
      | nil => simp at hl
      | cons q t => exact ⟨q, t, rfl⟩
    have hl' : A3'.length = n := by rw [hA3, List.length_cons] at hl; omega
    have eqC := T3.eq
    show WhlRest _ _ _ _ _ _ _ _ _ (0 + 1) _
    cases hA2 : A2 with
    | nil =>
      have hA1 : A1 = (k0, v0) :: A3' := by rw [hA2, List.nil_append] at eqC; rw [← eqC, hA3]
      have T4 : Tan ((k0, v0) :: A3') [] A3 p1 p2 := by rw [← hA1, ← hA2]; exact T3
      exact whl_turn hE (w_A lit B F X T N hd1 ho1 la1 lb1 a1 b1 e1 R1 P1 Q1 T3.la hd2 ho2 la2 lb2 a2 b2 e2 R2 P2 Q2 T3.lb hd3 ho3 la3 lb3 a3 b3 e3 R3 P3 Q3 (by have := T3.lc; omega) f0 f1 f2 f3 p12 hA3 (by rw [hA2]; rfl) hA1 fun h' tk' hm' => ih h' tk' A3' A2 A3' hl' (by rw [hA2]; exact T4.popA.2) hm')
    | cons q2 A2' =>
      rw [hA2, hA3, List.cons_append, List.cons.injEq] at eqC
      obtain ⟨eqa, eqb⟩ := eqC
      rw [← eqa] at hA2
      have T4 : Tan A1 ((k0, v0) :: A2') A3 p1 p2 := by rw [← hA2]; exact T3
      exact whl_turn hE (w_B lit B F X T N hd1 ho1 la1 lb1 a1 b1 e1 R1 P1 Q1 T3.la hd2 ho2 la2 lb2 a2 b2 e2 R2 P2 Q2 T3.lb hd3 ho3 la3 lb3 a3 b3 e3 R3 P3 Q3 (by have := T3.lc; omega) f0 f1 f2 f3 p12 hA3 hA2 fun h' tk' hm' => ih h' tk' A1 A2' A3' hl' (by rw [eqb]; exact T4.popB.2) hm')
theorem while_go {kk : Nat} {m : Str → Option Value} {od1 oo1 : Obj} {A1 : List (Int × Int)} {D1 O1 : List (Int × Value)} {w1 : Tok} {od2 oo2 : Obj} {A2 : List (Int × Int)} {D2 O2 : List (Int × Value)} {w2 : Tok} {od3 oo3 : Obj} {A3 : List (Int × Int)} {D3 O3 : List (Int × Value)} {w3 : Tok} {okd : Obj} (F : Fr h₀ L s.heap m) (g0 : m (Str.ofString "known") = some (.ref kd)) (g1 : m (Str.ofString "front") = some (.ref c1)) (g2 : m (Str.ofString "behind") = some (.ref c2)) (g3 : m (Str.ofString "one") = some (.ref c3)) (g4 : m (Str.ofString "others") = some (.int p2 t2)) (g5 : m (Str.ofString "places") = some (.int p1 t1)) (g6 : m (Str.ofString "numbers") = some (.ref ln)) (N : News h₀ L s.heap (wL kd okd (cL c3 dx3 da3 oa3 (dictOf (cEs w.params da3 oa3 ((A3).length : Int) (p3 : Int) u3 v3 w3 x3 y3 z3) 4) od3 oo3) (cL c2 dx2 da2 oa2 (dictOf (cEs w.params da2 oa2 ((A2).length : Int) (p2 : Int) u2 v2 w2 x2 y2 z2) 4) od2 oo2) (cL c1 dx1 da1 oa1 (dictOf (cEs w.params da1 oa1 ((A1).length : Int) (p1 : Int) u1 v1 w1 x1 y1 z1) 4) od1 oo1) ln vs)) (T3 : Tan A1 A2 A3 p1 p2) (R1 : Rel A1 D1 O1) (R2 : Rel A2 D2 O2) (R3 : Rel A3 D3 O3) (hd1 : od1.IsDictOf (intKind PW w) D1) (ho1 : oo1.IsDictOf (intKind PW w) O1) (hd2 : od2.IsDictOf (intKind PW w) D2) (ho2 : oo2.IsDictOf (intKind PW w) O2) (hd3 : od3.IsDictOf (intKind PW w) D3) (ho3 : oo3.IsDictOf (intKind PW w) O3) (hfin : ∀ h' tk' (rest : Str → Option Value) (od1 oo1 : Obj) (A1 : List (Int × Int)) (D1 O1 : List (Int × Value)) (w1 : Tok) (od2 oo2 : Obj) (A2 : List (Int × Int)) (D2 O2 : List (Int × Value)) (w2 : Tok) (od3 oo3 : Obj) (A3 : List (Int × Int)) (D3 O3 : List (Int × Value)) (w3 : Tok) (okd : Obj), A1.length = 0 → A2.length = 0 → Rel A1 D1 O1 → Rel A2 D2 O2 → Rel A3 D3 O3 → Fr h₀ L h' (mI kd c1 c2 c3 ln p1 p2 t1 t2 rest) → News h₀ L h' (wL kd okd (cL c3 dx3 da3 oa3 (dictOf (cEs w.params da3 oa3 ((A3).length : Int) (p3 : Int) u3 v3 w3 x3 y3 z3) 4) od3 oo3) (cL c2 dx2 da2 oa2 (dictOf (cEs w.params da2 oa2 ((A2).length : Int) (p2 : Int) u2 v2 w2 x2 y2 z2) 4) od2 oo2) (cL c1 dx1 da1 oa1 (dictOf (cEs w.params da1 oa1 ((A1).length : Int) (p1 : Int) u1 v1 w1 x1 y1 z1) 4) od1 oo1) ln vs) → od1.IsDictOf (intKind PW w) D1 → oo1.IsDictOf (intKind PW w) O1 → od2.IsDictOf (intKind PW w) D2 → oo2.IsDictOf (intKind PW w) O2 → od3.IsDictOf (intKind PW w) D3 → oo3.IsDictOf (intKind PW w) O3 → Q .next { s with heap := h', toks := tk' }) :
    WhlRest PW w (callerA.deeper (envOf (Str.ofString "law") scope L fa ccd)) E (envOf (Str.ofString "law") scope L fa ccd) (whlT body) (whlB body) [] Q kk s :=
  while_ok lit B X T la1 lb1 a1 b1 e1 P1 Q1 la2 lb2 a2 b2 e2 P2 Q2 la3 lb3 a3 b3 e3 P3 Q3 f0 f1 f2 f3 p12 hE (fun h' tk' A1' A2' A3' z1 z2 hm => by
    obtain ⟨rest, od1, oo1, D1, O1, w1, od2, oo2, D2, O2, w2, od3, oo3, D3, O3, w3, okd, R1, R2, R3, F, N, hd1, ho1, hd2, ho2, hd3, ho3⟩ := hm
    exact hfin h' tk' rest od1 oo1 A1' D1 O1 w1 od2 oo2 A2' D2 O2 w2 od3 oo3 A3' D3 O3 w3 okd z1 z2 R1 R2 R3 F N hd1 ho1 hd2 ho2 hd3 ho3) _ s.heap s.toks A1 A2 A3 rfl T3 ⟨m, od1, oo1, D1, O1, w1, od2, oo2, D2, O2, w2, od3, oo3, D3, O3, w3, okd, R1, R2, R3, mI_in F g0 g1 g2 g3 g4 g5 g6, N, hd1, ho1, hd2, ho2, hd3, ho3⟩
end
end
-- part J4
section
theorem small_two {b : Int} (h0 : -1 ≤ b) (h1 : b ≤ 40) : Builtin.Range.small 2 b 2 = true := by
  unfold Builtin.Range.small Builtin.Range.rangeSize
  simp only [Builtin.Range.rangeFitsLong, Bool.and_eq_true, Bool.or_eq_true, decide_eq_true_eq, beq_iff_eq, show ((2 : Int) > 0) by decide, if_true]
  split <;> omega
theorem size_two {b : Int} (h0 : -1 ≤ b) : ∃ n : Nat, Builtin.Range.rangeSize 2 b 2 = (n : Int) ∧ ∀ i < n, 2 + (i : Int) * 2 < b := by
  unfold Builtin.Range.rangeSize
  simp only [show ((2 : Int) > 0) by decide, if_true]
  split
  · refine ⟨((b - 2 - 1) / 2 + 1).toNat, by omega, fun i hi => by omega⟩
  · exact ⟨0, rfl, fun i hi => absurd hi (Nat.not_lt_zero _)⟩
theorem fm3 (x : Int) : 0 ≤ x.fmod 3 ∧ x.fmod 3 < 3 := by
  rw [Int.fmod_eq_emod_of_nonneg x (by decide)]
  omega
theorem p_ge {x : Int} : 1 ≤ x.fmod 3 + 1 := by have := fm3 x; omega
theorem p_le {x : Int} : x.fmod 3 + 1 ≤ 20 := by have := fm3 x; omega
theorem p_le3 {x : Int} : x.fmod 3 + 1 ≤ 3 := by have := fm3 x; omega
theorem p_ge2 {x y : Int} : 1 ≤ x.fmod 3 + 1 + (y.fmod 3 + 1) := by have := fm3 x; have := fm3 y; omega
theorem p_le2 {x y : Int} : x.fmod 3 + 1 + (y.fmod 3 + 1) ≤ 20 := by have := fm3 x; have := fm3 y; omega
local macro_rules | `(tactic| walk_at "call ref") => `(tactic| (k_here; (try dsimp only [List.nil_append, List.cons_append]); (with_reducible show wpAny _ _ (call (Value.ref _) [Value.int _ _]) _ _ _); k_dflt (refine' c_new ?zqB ?zqF ?zqX ?zqT ?zqhk ?zqNr ?zqp1 ?zqp2 ?zqdp ?zqun ?_; (case zqB => k_asm); (case zqF => k_asm); (case zqX => k_asm); (case zqT => k_asm); (case zqhk => first | rfl | assumption); (case zqNr => k_asm); (case zqp1 => first | exact p_ge | exact p_ge2); (case zqp2 => first | exact p_le | exact p_le2); (case zqdp => first | decide | ktr_room); (case zqun => first | decide | ktr_units)); intro h9 tk9 c9 dx9 da9 oa9 od9 oo9 t09 t19 t29 t39 t59 F9 N9 lt9 o19 o29 o39 I9 J9 lo19 lo29; (simp only [List.forall_mem_cons, List.not_mem_nil, false_implies, implies_true, and_true] at lt9); (try simp only [List.append_nil, List.cons_append, List.nil_append] at N9); (try dsimp only); (try k_fold)))
section
variable {w : World} {mean : ExcName → Option Value} {mg mb : Str → Option Value} {h₀ : Heap} {L fa : Addr} {ccd : Value} {s : Shared} {Q : Flow → Shared → Prop} {E : Value → Shared → Prop}
variable {params : Arguments} {body : List Stmt} {scope : Scope} {kd ln I : Addr} {vs : List Value} {ns : List Int} {t1 t2 tk t4 t5 : Tok}  {tail : List Stmt}
variable {c1 dx1 da1 oa1 : Addr} {u1 v1 x1 y1 z1 : Tok}
variable {c2 dx2 da2 oa2 : Addr} {u2 v2 x2 y2 z2 : Tok}
variable {c3 dx3 da3 oa3 : Addr} {u3 v3 x3 y3 z3 : Tok}
variable {xa xb : Int} {v : Int}
theorem loop_go (lit : fdOf (stFn 35 none) = some (params, body, scope)) (B : Below callerA h₀ [] h₀) (X : (KF w.params).In h₀) (T : Top qv (looseW qv lo) mean mg mb h₀)  (hE : PassesOwn (model PW w) (callerA.deeper (envOf (Str.ofString "law") scope L fa ccd)) (envOf (Str.ofString "law") scope L fa ccd) E) {m : Str → Option Value} {od1 oo1 : Obj} {w1 : Tok} {od2 oo2 : Obj} {w2 : Tok} {od3 oo3 : Obj} {w3 : Tok} {okd : Obj} {ms : List Int} {r : Addr} {tr ur vr : Tok}
 (F : Fr h₀ L s.heap m) (g0 : m (Str.ofString "known") = some (.ref kd)) (g1 : m (Str.ofString "front") = some (.ref c1)) (g2 : m (Str.ofString "behind") = some (.ref c2)) (g3 : m (Str.ofString "one") = some (.ref c3)) (g4 : m (Str.ofString "others") = some (.int xb t2)) (g5 : m (Str.ofString "places") = some (.int xa t1)) (g6 : m (Str.ofString "numbers") = some (.ref ln))
 (N : News h₀ L s.heap (wL kd okd (cL c3 dx3 da3 oa3 (dictOf (cEs w.params da3 oa3 0 (xa + xb) u3 v3 w3 x3 y3 z3) 4) od3 oo3) (cL c2 dx2 da2 oa2 (dictOf (cEs w.params da2 oa2 0 xb u2 v2 w2 x2 y2 z2) 4) od2 oo2) (cL c1 dx1 da1 oa1 (dictOf (cEs w.params da1 oa1 0 xa u1 v1 w1 x1 y1 z1) 4) od1 oo1) ln vs)) (hd1 : od1.IsDictOf (intKind PW w) []) (ho1 : oo1.IsDictOf (intKind PW w) []) (hd2 : od2.IsDictOf (intKind PW w) []) (ho2 : oo2.IsDictOf (intKind PW w) []) (hd3 : od3.IsDictOf (intKind PW w) []) (ho3 : oo3.IsDictOf (intKind PW w) []) (hkd : okd.IsDictOf (intKind PW w) [])
 (la1 : (da1 == sysModules) = false) (lb1 : (oa1 == sysModules) = false) (a1 : @LT.lt Nat _ dx1 c1) (b1 : @LT.lt Nat _ c1 da1) (e1 : @LT.lt Nat _ da1 oa1) (la2 : (da2 == sysModules) = false) (lb2 : (oa2 == sysModules) = false) (a2 : @LT.lt Nat _ dx2 c2) (b2 : @LT.lt Nat _ c2 da2) (e2 : @LT.lt Nat _ da2 oa2) (la3 : (da3 == sysModules) = false) (lb3 : (oa3 == sysModules) = false) (a3 : @LT.lt Nat _ dx3 c3) (b3 : @LT.lt Nat _ c3 da3) (e3 : @LT.lt Nat _ da3 oa3) (lk : (kd == sysModules) = false) (f0 : @LT.lt Nat _ ln dx1) (f1 : @LT.lt Nat _ oa1 dx2) (f2 : @LT.lt Nat _ oa2 dx3) (f3 : @LT.lt Nat _ oa3 kd)
 (hr : IsRange s.heap r 2 ((ms.length : Int) - 1) 2 tr ur vr) (hv : IntsAre vs (ms ++ [0, 0])) (hms : ms.length ≤ 34) (xa1 : 1 ≤ xa) (xa3 : xa ≤ 3) (xb1 : 1 ≤ xb) (xb3 : xb ≤ 3) 
 (hfin : ∀ (p1 p2 p3 : Nat) h' tk' (rest : Str → Option Value) (od1 oo1 : Obj) (A1 : List (Int × Int)) (D1 O1 : List (Int × Value)) (w1 : Tok) (od2 oo2 : Obj) (A2 : List (Int × Int)) (D2 O2 : List (Int × Value)) (w2 : Tok) (od3 oo3 : Obj) (A3 : List (Int × Int)) (D3 O3 : List (Int × Value)) (w3 : Tok) (okd : Obj), 1 ≤ p1 → p1 ≤ 6 → 1 ≤ p2 → p2 ≤ 6 → 1 ≤ p3 → p3 ≤ 6 → p3 = p1 + p2 → Tan A1 A2 A3 p1 p2 → Rel A1 D1 O1 → Rel A2 D2 O2 → Rel A3 D3 O3 → Fr h₀ L h' (mI kd c1 c2 c3 ln p1 p2 t1 t2 rest) → News h₀ L h' (wL kd okd (cL c3 dx3 da3 oa3 (dictOf (cEs w.params da3 oa3 ((A3).length : Int) (p3 : Int) u3 v3 w3 x3 y3 z3) 4) od3 oo3) (cL c2 dx2 da2 oa2 (dictOf (cEs w.params da2 oa2 ((A2).length : Int) (p2 : Int) u2 v2 w2 x2 y2 z2) 4) od2 oo2) (cL c1 dx1 da1 oa1 (dictOf (cEs w.params da1 oa1 ((A1).length : Int) (p1 : Int) u1 v1 w1 x1 y1 z1) 4) od1 oo1) ln vs) → od1.IsDictOf (intKind PW w) D1 → oo1.IsDictOf (intKind PW w) O1 → od2.IsDictOf (intKind PW w) D2 → oo2.IsDictOf (intKind PW w) O2 → od3.IsDictOf (intKind PW w) D3 → oo3.IsDictOf (intKind PW w) O3 → Q .next { s with heap := h', toks := tk' }) :
    wpAny (model PW w) (callerA.deeper (envOf (Str.ofString "law") scope L fa ccd)) (pyIter (.ref r)) (fun it s₂ => LoopAtV PW w (callerA.deeper (envOf (Str.ofString "law") scope L fa ccd)) h₀ (envOf (Str.ofString "law") scope L fa ccd) (Str.ofString "k") (forB body) Q E it s₂) E s := by
  obtain ⟨p1, rfl⟩ := Int.eq_ofNat_of_zero_le (show 0 ≤ xa by omega)
  obtain ⟨p2, rfl⟩ := Int.eq_ofNat_of_zero_le (show 0 ≤ xb by omega)
  obtain ⟨n, hn, hi⟩ := size_two (b := (ms.length : Int) - 1) (by omega)
  have N' : News h₀ (envOf (Str.ofString "law") scope L fa ccd).locals s.heap (wL kd okd (cL c3 dx3 da3 oa3 (dictOf (cEs w.params da3 oa3 ((([] : List (Int × Int))).length : Int) ((p1 + p2 : Nat) : Int) u3 v3 w3 x3 y3 z3) 4) od3 oo3) (cL c2 dx2 da2 oa2 (dictOf (cEs w.params da2 oa2 ((([] : List (Int × Int))).length : Int) (p2 : Int) u2 v2 w2 x2 y2 z2) 4) od2 oo2) (cL c1 dx1 da1 oa1 (dictOf (cEs w.params da1 oa1 ((([] : List (Int × Int))).length : Int) (p1 : Int) u1 v1 w1 x1 y1 z1) 4) od1 oo1) ln vs) := N
  refine krs_iter (n := n) (m₀ := mI kd c1 c2 c3 ln p1 p2 t1 t2 m) (by rfl) hr (small_two (by omega) (by omega)) hn (mI_in F g0 g1 g2 g3 g4 g5 g6) N' fun I l1 => ?_
  exact loop_ok (p3 := p1 + p2) (k2 := by rw [List.length_append]; simp only [List.length_cons, List.length_nil]; omega) lit B X T la1 lb1 a1 b1 e1 (by omega) (by omega) la2 lb2 a2 b2 e2 (by omega) (by omega) la3 lb3 a3 b3 e3 (by omega) (by omega) lk hv f0 f1 f2 f3 rfl hE (hn := fun i hlt => by have := hi i hlt; rw [List.length_append]; simp only [List.length_cons, List.length_nil]; omega) (f4 := l1 _ (.head _)) (hfin := fun h' tk' A1' A2' A3' T' hm => by
    obtain ⟨rest', od1', oo1', D1', O1', w1', od2', oo2', D2', O2', w2', od3', oo3', D3', O3', w3', okd', R1', R2', R3', F', N', hd1', ho1', hd2', ho2', hd3', ho3'⟩ := hm
    exact hfin p1 p2 (p1 + p2) h' tk' rest' od1' oo1' A1' D1' O1' w1' od2' oo2' A2' D2' O2' w2' od3' oo3' A3' D3' O3' w3' okd' (by omega) (by omega) (by omega) (by omega) (by omega) (by omega) rfl T' R1' R2' R3' F' N' hd1' ho1' hd2' ho2' hd3' ho3')
    n 0 (by omega) m od1 oo1 [] [] [] w1 od2 oo2 [] [] [] w2 od3 oo3 [] [] [] w3 okd [] (Tan.start (by omega) (by omega)) Rel.nil Rel.nil Rel.nil Kn.nil hd1 ho1 hd2 ho2 hd3 ho3 hkd (Nat.le_refl _)
end
end
-- part J5
section
section
variable {w : World} {mean : ExcName → Option Value} {mg mb : Str → Option Value} {dp un : Nat} {gd : Option (List Code)} {cn : Str} {cs : Scope} {a : Addr} {ccd : Value} {cl : List (Str × Addr)} {outer : List Env} {A₀ : Around} {base h₀ : Heap} {L : Addr} {m : Str → Option Value} {s : Shared} {Q E : Value → Shared → Prop} {rest : List (Addr × Obj)} {p : Int} {tp : Tok}
theorem c_new2 (B : Below A₀ base outer h₀) (F : Fr h₀ L s.heap m) (X : (KF w.params).In h₀) (T : Top qv (looseW qv lo) mean mg mb h₀) (hk : cs.kind = .function) (Nr : News h₀ L s.heap rest) (hp1 : 1 ≤ p) (hp2 : p ≤ 20) (hdp : dp + 10 < recursionLimit) (hun : un + 100 < cLine)
    (hret : ∀ h' tk' c dx da oa od oo t0 t1 t2 t3 t5, Fr h₀ L h' m → News h₀ L h' (cL c dx da oa (dictOf (cEs w.params da oa 0 p t0 t1 t2 t3 tp t5) 4) od oo ++ rest) → (∀ q ∈ rest, @LT.lt Nat _ q.1 dx) → @LT.lt Nat _ dx c → @LT.lt Nat _ c da → @LT.lt Nat _ da oa →
      od.IsDictOf (intKind PW w) ([] : List (Int × Value)) → oo.IsDictOf (intKind PW w) ([] : List (Int × Value)) → (da == sysModules) = false → (oa == sysModules) = false → Q (.ref c) { s with heap := h', toks := tk' }) :
    wpAny (model PW w) (ktrTop dp un gd cn cs L a ccd cl outer) (call (.ref 897) [.int p tp]) Q E s := c_new B F X T hk Nr hp1 hp2 hdp hun hret
end
local macro_rules | `(tactic| walk_at "call ref") => `(tactic| (k_here; (try dsimp only [List.nil_append, List.cons_append]); (with_reducible show wpAny _ _ (call (Value.ref _) [Value.int _ _]) _ _ _); k_dflt (refine' c_new2 ?zqB ?zqF ?zqX ?zqT ?zqhk ?zqNr ?zqp1 ?zqp2 ?zqdp ?zqun ?_; (case zqB => k_asm); (case zqF => k_asm); (case zqX => k_asm); (case zqT => k_asm); (case zqhk => first | rfl | assumption); (case zqNr => k_asm); (case zqp1 => first | exact p_ge | exact p_ge2); (case zqp2 => first | exact p_le | exact p_le2); (case zqdp => first | decide | ktr_room); (case zqun => first | decide | ktr_units)); intro h9 tk9 c9 dx9 da9 oa9 od9 oo9 t09 t19 t29 t39 t59 F9 N9 lt9 o19 o29 o39 I9 J9 lo19 lo29; (simp only [List.forall_mem_cons, List.not_mem_nil, false_implies, implies_true, and_true] at lt9); (try simp only [List.append_nil, List.cons_append, List.nil_append] at N9); (try dsimp only); (try k_fold)))
local macro_rules | `(tactic| walk_at "pyIter ref") => `(tactic| (k_here; (with_reducible show wpAny _ _ (pyIter (Value.ref _)) _ _ _); (with_reducible rename fdOf _ = _ => lit9); (with_reducible rename IsRange _ _ _ _ _ _ _ _ => rg9); k_dflt (refine' loop_go lit9 ?zqB ?zqX ?zqT ?zqhE ?zqF ?zqg0 ?zqg1 ?zqg2 ?zqg3 ?zqg4 ?zqg5 ?zqg6 ?zqN ?zqhd1 ?zqho1 ?zqhd2 ?zqho2 ?zqhd3 ?zqho3 ?zqhkd ?zqla1 ?zqlb1 ?zqa1 ?zqb1 ?zqe1 ?zqla2 ?zqlb2 ?zqa2 ?zqb2 ?zqe2 ?zqla3 ?zqlb3 ?zqa3 ?zqb3 ?zqe3 ?zqlk ?zqf0 ?zqf1 ?zqf2 ?zqf3 rg9 ?zqhv ?zqhms ?zqxa1 ?zqxa3 ?zqxb1 ?zqxb3 ?_; (case zqF => k_asm); (case zqB => k_asm); (case zqX => k_asm); (case zqT => k_asm); (case zqhE => first | passes_own | with_unfolding_all passes_own); (case zqg0 => with_unfolding_all rfl); (case zqg1 => with_unfolding_all rfl); (case zqg2 => with_unfolding_all rfl); (case zqg3 => with_unfolding_all rfl); (case zqg4 => with_unfolding_all rfl); (case zqg5 => with_unfolding_all rfl); (case zqg6 => with_unfolding_all rfl); (case zqN => exact n_sub (by assumption) (by simp only [wL, cL, List.cons_append, List.nil_append]; repeat' first | exact List.forall_mem_nil _ | (refine List.forall_mem_cons.mpr ⟨?_, ?_⟩; (focus kcj_m)))); (case zqhd1 => assumption); (case zqho1 => assumption); (case zqhd2 => assumption); (case zqho2 => assumption); (case zqhd3 => assumption); (case zqho3 => assumption); (case zqhkd => assumption); (case zqla1 => assumption); (case zqlb1 => assumption); (case zqa1 => omega); (case zqb1 => omega); (case zqe1 => omega); (case zqla2 => assumption); (case zqlb2 => assumption); (case zqa2 => omega); (case zqb2 => omega); (case zqe2 => omega); (case zqla3 => assumption); (case zqlb3 => assumption); (case zqa3 => omega); (case zqb3 => omega); (case zqe3 => omega); (case zqlk => assumption); (case zqf0 => omega); (case zqf1 => omega); (case zqf2 => omega); (case zqf3 => omega); (case zqhv => assumption); (case zqhms => omega); (case zqxa1 => exact p_ge); (case zqxa3 => exact p_le3); (case zqxb1 => exact p_ge); (case zqxb3 => exact p_le3)); intro p1 p2 p3 h9 tk9 rest9 od1 oo1 A1 D1 O1 w1 od2 oo2 A2 D2 O2 w2 od3 oo3 A3 D3 O3 w3 okd9 P1 Q1 P2 Q2 P3 Q3 p12 T9 R1 R2 R3 F9 N9 hd1 ho1 hd2 ho2 hd3 ho3; clear rg9; (have le1 := Tan.la T9); (have le2 := Tan.lb T9); (have le3 := Tan.lc T9); (unfold mI at F9); (simp only [wL, cL, List.cons_append, List.nil_append] at N9); (try dsimp only)))
local macro_rules | `(tactic| walk_at "exec While Compare") => `(tactic| (k_here; k_dflt (refine whl_start 0 ?_)))
local macro_rules | `(tactic| walk_at "WhlRest") => `(tactic| ((with_reducible rename fdOf _ = _ => lit9); k_dflt (refine' while_go lit9 ?zqB ?zqX ?zqT ?zqla1 ?zqlb1 ?zqa1 ?zqb1 ?zqe1 ?zqP1 ?zqQ1 ?zqla2 ?zqlb2 ?zqa2 ?zqb2 ?zqe2 ?zqP2 ?zqQ2 ?zqla3 ?zqlb3 ?zqa3 ?zqb3 ?zqe3 ?zqP3 ?zqQ3 ?zqf0 ?zqf1 ?zqf2 ?zqf3 ?zqp12 ?zqhE ?zqF ?zqg0 ?zqg1 ?zqg2 ?zqg3 ?zqg4 ?zqg5 ?zqg6 ?zqN ?zqT3 ?zqR1 ?zqR2 ?zqR3 ?zqhd1 ?zqho1 ?zqhd2 ?zqho2 ?zqhd3 ?zqho3 ?_; (case zqF => k_asm); (case zqB => k_asm); (case zqX => k_asm); (case zqT => k_asm); (case zqhE => first | passes_own | with_unfolding_all passes_own); (case zqg0 => with_unfolding_all rfl); (case zqg1 => with_unfolding_all rfl); (case zqg2 => with_unfolding_all rfl); (case zqg3 => with_unfolding_all rfl); (case zqg4 => with_unfolding_all rfl); (case zqg5 => with_unfolding_all rfl); (case zqg6 => with_unfolding_all rfl); (case zqT3 => assumption); (case zqR1 => assumption); (case zqR2 => assumption); (case zqR3 => assumption); (case zqN => exact n_sub (by assumption) (by simp only [wL, cL, List.cons_append, List.nil_append]; repeat' first | exact List.forall_mem_nil _ | (refine List.forall_mem_cons.mpr ⟨?_, ?_⟩; (focus kcj_m)))); (case zqhd1 => assumption); (case zqho1 => assumption); (case zqhd2 => assumption); (case zqho2 => assumption); (case zqhd3 => assumption); (case zqho3 => assumption); (case zqla1 => assumption); (case zqlb1 => assumption); (case zqa1 => omega); (case zqb1 => omega); (case zqe1 => omega); (case zqla2 => assumption); (case zqlb2 => assumption); (case zqa2 => omega); (case zqb2 => omega); (case zqe2 => omega); (case zqla3 => assumption); (case zqlb3 => assumption); (case zqa3 => omega); (case zqb3 => omega); (case zqe3 => omega); (case zqP1 => omega); (case zqQ1 => omega); (case zqP2 => omega); (case zqQ2 => omega); (case zqP3 => omega); (case zqQ3 => omega); (case zqf0 => omega); (case zqf1 => omega); (case zqf2 => omega); (case zqf3 => omega); (case zqp12 => assumption)); intro h9 tk9 rest9 od1 oo1 A1 D1 O1 w1 od2 oo2 A2 D2 O2 w2 od3 oo3 A3 D3 O3 w3 okd9 g1 g2 R1 R2 R3 F9 N9 hd1 ho1 hd2 ho2 hd3 ho3; (have le1 := Nat.le_of_eq g1); (have le2 := Nat.le_of_eq g2); (unfold mI at F9); (simp only [wL, cL, List.cons_append, List.nil_append] at N9); (try dsimp only)))
theorem lit_go {α β γ : Type} {x : Option (α × β × γ)} {a : α} {b : β} {c : γ} (h : x = some (a, b, c)) : x = some (a, b, c) := h
theorem lawX : PySem.Challenge.rw_bg0026_01.Holds := by
  refine hd (by rfl) (by rfl) (by rfl) ?_
  k_go0
  have lit0 := lit_go (x := fdOf (stFn 35 none)) (by rfl)
  k_steps
end
end
end Mine
end
theorem PySem.Challenge.cw_bg0026_01_holds : PySem.Challenge.rw_bg0026_01.Holds :=
  Mine.lawX
