import PyProof.Rows.All
import Wide.All
import OpenK.AllK
import Wide.FinOn
import Lean
import PySem.Challenge.RW_oc0270_01
open PySem PySem.W PyProof.Rows
set_option Elab.async false
set_option linter.unusedVariables false
set_option linter.unusedSectionVars false
namespace Mine
section
set_option maxRecDepth 1000000
set_option maxHeartbeats 0
abbrev lawR := PySem.Challenge.rw_oc0270_01
abbrev lawP := PySem.Challenge.pw_oc0270_01
theorem look1 : sreFenced lawP.main = true := by kernel_rfl
theorem look2 : ((moduleNames lawP.main.body).isEmpty || lookedIntoSs (moduleNames lawP.main.body) lawP.main.body) = true := by kernel_rfl
theorem look3 : namesResolve lawP = true := by kernel_rfl
theorem look4 : lawP.boundNames.all (fun n => !worldNames.contains n) = true := by kernel_rfl
theorem look5 : noRoadLSs { strict := !(importedModules lawP.main.body).all cThrough.contains, foot := none, bare := (["vars", "dir", "locals"] : List Str).filter (readsOut lawP lawP.main.body) } lawP.main.body = true := by kernel_rfl
theorem look6 : (namesMeet lawP lawP.main.body fun _ n => attrL n) = true := by kernel_rfl
theorem looks : looksOpen lawP = true := by
  show (sreFenced lawP.main && ((moduleNames lawP.main.body).isEmpty || lookedIntoSs (moduleNames lawP.main.body) lawP.main.body) && namesResolve lawP && lawP.boundNames.all (fun n => !worldNames.contains n) && noRoadLSs { strict := !(importedModules lawP.main.body).all cThrough.contains, foot := none, bare := (["vars", "dir", "locals"] : List Str).filter (readsOut lawP lawP.main.body) } lawP.main.body && namesMeet lawP lawP.main.body fun _ n => attrL n) = true
  rw [look1, look2, look3, look4, look5, look6]; rfl
theorem rowSaid : lawR.row.wellSaid = true := by
  show (looksOpen lawP && _ && _ && _ && _ && _ && _ && _ && _ && _ && _ && _ && _ && _ && _ && _) = true
  rw [looks]
  kernel_rfl
theorem said2 : lawR.footing.all footLine = true := by kernel_rfl
theorem said3 : noClassBlock lawR.prog lawR.footing = true := by kernel_rfl
theorem said4 : noRoadLSs { strict := true, foot := some lawR.bound', writes := lawR.writes, may := lawR.may } lawR.footing = true := by kernel_rfl
theorem said5 : defStands lawR.about lawR.above = true := by kernel_rfl
theorem said6 : lawR.namesIt = true := by kernel_rfl
theorem said7 : (lawR.bound'.all fun n => !builtinNamed n || lawR.about == [n] || !lawR.reads n) = true := by kernel_rfl
theorem said : lawR.wellSaid = true := by
  unfold OpenLaw.wellSaid
  rw [rowSaid, said2, said3, said4, said5, said6, said7]
  kernel_rfl
end
end Mine
namespace Mine
section
set_option maxRecDepth 1000000
set_option maxHeartbeats 0

/-! ## The head: the top's run by trees, in one check -/

def build? : List Obj → Nat → BT → Option BT
  | [], _, t => some t
  | o :: l, n, t => match ((t.ins n o).get n).isSome with
    | true => build? l (n + 1) (t.ins n o)
    | false => none
theorem build_abs (life : Life) : ∀ (l : List Obj) (n : Nat) (t t' : BT), build? l n t = some t' → absHeap t' (n + l.length) life = ⟨(absHeap t n life).objs ++ l.toArray, life⟩
  | [], n, t, t', h => by
    cases h
    show _ = Heap.mk _ _
    simp [absHeap]
  | o :: l, n, t, t', h => by
    unfold build? at h
    split at h
    · rename_i e
      have ih := build_abs life l (n + 1) (t.ins n o) t' h
      rw [List.length_cons, show n + (l.length + 1) = n + 1 + l.length by omega, ih, absHeap_ins e]
      show Heap.mk _ _ = Heap.mk _ _
      congr 1
      show ((absHeap t n life).push o).objs ++ l.toArray = _
      show ((absHeap t n life).objs.push o) ++ l.toArray = _
      apply Array.ext'
      simp
    · cases h
def treeOf? (s : Shared) : Option SharedT := (build? s.heap.objs.toList 0 .nil).map fun t => ⟨t, s.heap.objs.size, s.heap.life, s.gens, s.drawn, s.toks, s.os⟩
theorem treeOf_abs {s : Shared} {x : SharedT} (h : treeOf? s = some x) : x.abs = s := by
  obtain ⟨t, ht, rfl⟩ := Option.map_eq_some_iff.mp h
  obtain ⟨⟨objs, life⟩, g, d, k, os⟩ := s
  have := build_abs life objs.toList 0 .nil t ht
  rw [Nat.zero_add] at this
  show Shared.mk (absHeap t objs.size life) g d k os = _
  have e : objs.toList.length = objs.size := by simp
  rw [e] at this
  rw [this]
  congr 2
  simp [absHeap, BT.list]

abbrev SegTy := (String → Option Builtin) → Program → World → Nat → Option Value → Nat → Nat → SharedT → Thread → Option (SharedT × Thread)
abbrev ImpTy := (String → Option Builtin) → Program → World → Nat → SharedT → Thread → Option (SharedT × Thread)

def runAll (imp : ImpTy) (seg : SegTy) (tb : String → Option Builtin) (p : Program) (w : World) (n1 n2 : Nat) : Option (Shared × SharedT) :=
  match treeOf? (start (opening p)).1 with
  | some z => match imp tb (opening p) w n1 z (start (opening p)).2 with
    | some (sT, t) => match t.atExitBegin with
      | some [] => match fenceModules? p sT.abs with
        | some s₀ => match treeOf? s₀ with
          | some y => match seg tb p w s₀.heap.objs.size (s₀.heap.nsMap mainGlobals "__annotations__") 1000000 n2 y (topStub p) with
            | some (s₁, t₁) => match through t₁ with
              | true => some (s₀, s₁)
              | false => none
            | none => none
          | none => none
        | none => none
      | _ => none
    | none => none
  | none => none

theorem not_through {den : Code → Sem Fin} {p : Program} {w : World} {s s' : Shared} {t t' : Thread} (h : step den p w s t = .go s' t') : through t = false := by
  obtain ⟨cur, code, pos, stack⟩ := t
  cases stack with
  | cons f r => rfl
  | nil =>
    cases cur with
    | pure f => cases f with
      | done f => obtain ⟨heap, gens, drawn, toks, os⟩ := s; simp only [step, finish] at h; split at h <;> cases h
      | again c => rfl
    | _ => rfl
theorem topRun_of_segGo {tb : String → Option Builtin} {p : Program} {w : World} {n₀ : Nat} {ann : Option Value} {b : Nat} : ∀ {n : Nat} {s s' : Shared} {t t' : Thread}, segGo tb p w n₀ ann b n s t = some (s', t') → through t' = true →
    topRun tb p w n₀ ann (n + 1) s t = some s'
  | 0, s, s', t, t', h, k => by
    obtain ⟨rfl, rfl⟩ : s = s' ∧ t = t' := by simpa [segGo] using h
    unfold topRun; rw [k]
  | n + 1, s, s', t, t', h, k => by
    unfold segGo at h
    unfold topRun
    cases he : endAt b t with
    | some f => rw [he] at h; cases h
    | none =>
      rw [he] at h
      cases hk : stepOk n₀ ann t with
      | false => rw [hk] at h; cases h
      | true =>
        rw [hk] at h
        cases hs : step (denote tb) p w s t with
        | halt o s₂ => rw [hs] at h; cases h
        | go s₂ t₂ =>
          rw [hs] at h
          rw [not_through hs]
          exact topRun_of_segGo h k

theorem runAll_spec {p : Program} {w : World} {n1 n2 N : Nat} {s₀ : Shared} {x : SharedT} (h : runAll impGoT segGoT treeTable p w n1 n2 = some (s₀, x)) (h1 : n1 < N) (h2 : n2 < N) :
    fencedOpening treeTable p w N = some s₀ ∧ topRun treeTable p w s₀.heap.objs.size (s₀.heap.nsMap mainGlobals "__annotations__") N s₀ (topStub p) = some x.abs := by
  unfold runAll at h
  split at h
  · rename_i z hz
    split at h
    · rename_i sT t himp
      split at h
      · rename_i hex
        split at h
        · rename_i s₀' hf
          split at h
          · rename_i y hy
            split at h
            · rename_i s₁ t₁ hseg
              split at h
              · rename_i hth
                cases h
                constructor
                · have a := impGo_of himp
                  rw [treeOf_abs hz] at a
                  have b : importEnds treeTable (opening p) w 1 sT.abs t = some sT.abs := by unfold importEnds; rw [hex]
                  have c := importEnds_mono (N - (n1 + 1)) _ _ _ _ (imp_go a b)
                  rw [show n1 + 1 + (N - (n1 + 1)) = N by omega] at c
                  unfold fencedOpening
                  rw [c]
                  exact hf
                · have a := segGo_of hseg
                  rw [treeOf_abs hy] at a
                  have c := topRun_mono (N - (n2 + 1)) _ _ _ _ (topRun_of_segGo a hth)
                  rw [show n2 + 1 + (N - (n2 + 1)) = N by omega] at c
                  exact c
              · cases h
            · cases h
          · cases h
        · cases h
      · cases h
    · cases h
  · cases h

def obsT (as : List Addr) (x : SharedT) : List (Option Obj) := as.map fun a => match Nat.blt a x.n with
  | true => (x.tree.get a).bind alive
  | false => none
theorem obsT_eq (as : List Addr) (x : SharedT) (h : ∀ a ∈ as, (match Nat.blt a x.n with | true => (x.tree.get a).isSome | false => true) = true) : as.map x.abs.heap.get? = obsT as x := by
  unfold obsT
  apply List.map_congr_left
  intro a ha
  have := h a ha
  show (absHeap x.tree x.n x.life).get? a = _
  cases e : Nat.blt a x.n with
  | false => exact abs_get_none fun q => by rw [show Nat.blt a x.n = true from Nat.ble_eq_true_of_le q] at e; cases e
  | true =>
    rw [e] at this
    have lt : a < x.n := Nat.le_of_ble_eq_true e
    cases g : x.tree.get a with
    | none => rw [g] at this; cases this
    | some o => exact abs_get lt g

def chkTop (p : Program) (as : List Addr) (s₀ : Shared) (x : SharedT) : Bool :=
  (s₀.heap.isNs mainGlobals && s₀.gens.size == 0) && (as.all fun a => match Nat.blt a x.n with | true => (x.tree.get a).isSome | false => true) &&
  (staticsOk (importedModules p.main.body) s₀.heap x.abs.heap && namesBound p x.abs.heap && gensDone x.abs && laidKept s₀.heap x.abs.heap)

theorem left_of {p q : Program} {loose : List Str} {Xt : Shared → Bool} {K : Params → Frag} {as : List Addr} {n1 n2 N : Nat}
    (h : ∀ w, (runAll impGoT segGoT treeTable p w n1 n2).map (fun x => (chkTop p as x.1 x.2, openSeen q loose (importedModules p.main.body) Xt true x.2.abs, obsT as x.2)) = some (true, openGood q loose, (K w.params).map fun p => some p.2))
    (h1 : n1 < N) (h2 : n2 < N) : LeftO p q loose Xt (fun s => as.map s.heap.get?) (fun w => (K w.params).map fun p => some p.2) N := fun w => by
  obtain ⟨⟨s₀, x⟩, e, e'⟩ := Option.map_eq_some_iff.mp (h w)
  simp only [Prod.mk.injEq] at e'
  obtain ⟨c1, c2, c3⟩ := e'
  obtain ⟨r1, r2⟩ := runAll_spec e h1 h2
  unfold chkTop at c1
  simp only [Bool.and_eq_true] at c1
  obtain ⟨⟨⟨a1, a2⟩, a3⟩, a4⟩ := c1
  have o := obsT_eq as x (fun a ha => by have := List.all_eq_true.mp a3 a ha; exact this)
  have t : topFrom treeTable p w N s₀ = some x.abs := by
    unfold topFrom
    rw [a1, a2, Bool.and_true, r2]
    simp only [Option.bind_some]
    simp only [a4, Bool.and_true]
  show (openEnds treeTable p w N).map _ = _
  unfold openEnds
  rw [r1, Option.bind_some, t, Option.map_some, c2]
  dsimp only
  rw [o, c3]

/-! ## The objects that the top leaves, as far as the proof names them -/
def oSt (p : Program) (i : Nat) : Stmt := p.main.body.getD i (.Pass default)
def oSub (s : Stmt) (i : Nat) : Stmt := match s with
  | .ClassDef _ _ _ b _ _ _ _ _ _ _ => b.getD i (.Pass default)
  | _ => .Pass default
def oArgs : Stmt → Arguments
  | .FunctionDef _ a _ _ _ _ _ _ _ _ => a
  | _ => ⟨[], [], none, [], [], none, []⟩
def oBody : Stmt → List Stmt
  | .FunctionDef _ _ b _ _ _ _ _ _ _ => b
  | _ => []
def oScope : Stmt → Scope
  | .FunctionDef _ _ _ _ _ _ s _ _ _ => s
  | _ => default
noncomputable def oFd (name qual : String) (d : Stmt) (g : Nat) (dflt pm cd : Value) : FuncData :=
  { name := name, qualname := qual, params := oArgs d, body := .stmts (oBody d), scope := oScope d, globals := g, closure := [], defaults := dflt, kwdefaults := .none, doc := .none, pyModule := pm, annotations := none, code := cd, closureTuple := .none, builtins := 0 }
noncomputable def oEn (P : Params) (k : String) (t : Nat) (v : Value) : DictEntry := ⟨PyData.keyHash P k, .str k t, v⟩
noncomputable def oEnC (P : Params) (k : Str) (t : Nat) (v : Value) : DictEntry := ⟨PyData.keyHash P k, .str k t, v⟩
noncomputable def ob3 (p : Program) (P : Params) : Obj := { cls := (.type "dict"), data := .dict #[oEn P "__name__" 165 (.str "law_oc0270_01" 1299), oEn P "__doc__" 166 .none, oEn P "__package__" 167 .none, oEn P "__loader__" 168 (.builtin "__main__.__loader__#opaque"), oEn P "__spec__" 169 .none, oEn P "__annotations__" 170 (.ref 6), oEn P "__builtins__" 171 (.ref 4), oEn P "__file__" 173 (.str "/claim/cut.py" 172), oEn P "__cached__" 174 .none, oEn P "_sre" 275 (.ref 12), oEn P "deque" 317 (.type "collections.deque"), oEn P "_wall" 330 (.ref 44), oEn P "StatisticsError" 350 (.ref 54), oEn P "median_low" 358 (.ref 64), oEn P "_twin_re_1" 398 (.ref 69), oEn P "_whence" 408 (.ref 76), oEn P "_index" 416 (.ref 83), oEn P "UnsupportedOperation" 438 (.ref 93), oEn P "IOBase" 470 (.ref 113), oEn P "BufferedIOBase" 488 (.ref 128), oEn P "TextIOBase" 506 (.ref 140), oEn P "BytesIO" 768 (.ref 370), oEn P "StringIO" 1055 (.ref 617), oEn P "_kind" 1066 (.ref 626), oEn P "_fspath" 1075 (.ref 633), oEn P "_check_arg_types" 1085 (.ref 640), oEn P "isabs" 1092 (.ref 647), oEn P "join" 1103 (.ref 771), oEn P "join_path" 1104 (.ref 654), oEn P "dirname" 1114 (.ref 661), oEn P "shlex" 1255 (.ref 752), oEn P "split" 1265 (.ref 764), oEn P "join_shlex" 1273 (.ref 771), oEn P "_find_unsafe" 1275 (.ref 772), oEn P "quote" 1282 (.ref 779), oEn P "sorted_list_difference" 1298 (.ref 786), oEn P "_law_word" 1308 (.ref 793), oEn P "_law_table" 1314 (.ref 798), oEn P "_law_shelf" 1320 (.ref 803), oEn P "_law_read" 1326 (.ref 808), oEn P "_law_due" 1332 (.ref 813), oEn P "_law_changed" 1338 (.ref 818), oEn P "_law_kept" 1345 (.ref 825), oEn P "_law_voted" 1352 (.ref 832), oEn P "law" 1358 (.ref 837)] 45 }
noncomputable def ob63 (p : Program) (P : Params) : Obj := { cls := (.type "code"), data := .fields #[(.str "median_low" 351), (.str "median_low" 352), (.str "/claim/cut.py" 353), (.int (9) 0), (.int (1) 0), (.int (0) 0), (.int (0) 0), (.int (3) 0), (.ref 58), (.bool true), (.int (318) 0), (.ref 59), .none, (.ref 60), (.ref 61), (.ref 62), (.int (356) 0), (.int (9) 0), (.str "/claim/cut.py" 357)] }
noncomputable def ob64 (p : Program) (P : Params) : Obj := { cls := (.type "function"), data := .func (oFd "median_low" "median_low" (oSt p 5) 3 .none (.str "cpy313.statistics" 331) (.ref 63)) }
noncomputable def ob68 (p : Program) (P : Params) : Obj := { cls := (.type "tuple"), data := .seq #[(.int (14) 0), (.int (17) 0), (.int (4) 0), (.int (1) 0), (.int (1) 0), (.int (21) 0), (.int (9) 0), (.int (0) 0), (.int (604043296) 0), (.int (1) 0), (.int (0) 0), (.int (0) 0), (.int (0) 0), (.int (0) 0), (.int (0) 0), (.int (8) 0), (.int (4) 0), (.int (0) 0), (.int (13) 0), (.int (14) 0), (.int (21) 0), (.int (9) 0), (.int (0) 0), (.int (604043296) 0), (.int (1) 0), (.int (0) 0), (.int (0) 0), (.int (0) 0), (.int (0) 0), (.int (0) 0), (.int (8) 0), (.int (4) 0), (.int (0) 0), (.int (1) 0)] 0 }
noncomputable def ob69 (p : Program) (P : Params) : Obj := { cls := (.type "re.Pattern"), data := .fields #[(.str "[^\\w@%+=:,./-]" 360), (.int (256) 397), (.int (0) 0), .none, .none, (.ref 68), (.int (0) 0)] }
noncomputable def ob82 (p : Program) (P : Params) : Obj := { cls := (.type "code"), data := .fields #[(.str "_index" 409), (.str "_index" 410), (.str "/claim/cut.py" 411), (.int (25) 0), (.int (2) 0), (.int (0) 0), (.int (0) 0), (.int (3) 0), (.ref 77), (.bool true), (.int (318) 0), (.ref 78), .none, (.ref 79), (.ref 80), (.ref 81), (.int (414) 0), (.int (25) 0), (.str "/claim/cut.py" 415)] }
noncomputable def ob83 (p : Program) (P : Params) : Obj := { cls := (.type "function"), data := .func (oFd "_index" "_index" (oSt p 9) 3 .none (.str "io" 399) (.ref 82)) }
noncomputable def ob109 (p : Program) (P : Params) : Obj := { cls := (.type "code"), data := .fields #[(.str "__new__" 453), (.str "IOBase.__new__" 454), (.str "/claim/cut.py" 455), (.int (37) 0), (.int (1) 0), (.int (1) 0), (.int (0) 0), (.int (15) 0), (.ref 104), (.bool true), (.int (318) 0), (.ref 105), .none, (.ref 106), (.ref 107), (.ref 108), (.int (459) 0), (.int (37) 0), (.str "/claim/cut.py" 460)] }
noncomputable def ob110 (p : Program) (P : Params) : Obj := { cls := (.type "function"), data := .func (oFd "__new__" "IOBase.__new__" (oSub (oSt p 11) 1) 3 .none (.str "io" 399) (.ref 109)) }
noncomputable def ob112 (p : Program) (P : Params) : Obj := { cls := (.type "dict"), data := .dict #[oEn P "__module__" 446 (.str "io" 451), oEn P "__firstlineno__" 450 (.int (34) 449), oEn P "__new__" 461 (.ref 114), oEn P "__static_attributes__" 462 (.ref 111), oEn P "__dict__" 465 (.ref 115), oEn P "__weakref__" 467 (.ref 116), oEn P "__doc__" 468 .none] 4 }
noncomputable def ob113 (p : Program) (P : Params) : Obj := { cls := (.type "type"), data := .cls { name := "IOBase", bases := [(.type "object")], mro := [(.ref 113), (.type "object")], ns := 112, qualname := "IOBase", hasDict := true, slotNames := [], subclasses := [(.ref 128), (.ref 140)], abstract := false, collection := none, hasDel := false }, slots := #[none, none, some (.str "IOBase" 439), some (.str "IOBase" 447), some .none, some (.bool true)] }
noncomputable def ob114 (p : Program) (P : Params) : Obj := { cls := (.type "staticmethod"), data := .fields #[(.ref 110)] }
noncomputable def ob115 (p : Program) (P : Params) : Obj := { cls := (.type "getset_descriptor"), data := .fields #[(.str "__dict__" 464), (.ref 113), (.builtin "function.__dict__"), (.builtin "function.__dict__#set")] }
noncomputable def ob116 (p : Program) (P : Params) : Obj := { cls := (.type "getset_descriptor"), data := .fields #[(.str "__weakref__" 466), (.ref 113), (.builtin "ExceptionGroup.__weakref__"), .none] }
noncomputable def ob139 (p : Program) (P : Params) : Obj := { cls := (.type "dict"), data := .dict #[oEn P "__module__" 496 (.str "io" 501), oEn P "__firstlineno__" 500 (.int (43) 499), oEn P "__static_attributes__" 503 (.ref 138), oEn P "__doc__" 504 .none] 2 }
noncomputable def ob140 (p : Program) (P : Params) : Obj := { cls := (.type "type"), data := .cls { name := "TextIOBase", bases := [(.ref 113)], mro := [(.ref 140), (.ref 113), (.type "object")], ns := 139, qualname := "TextIOBase", hasDict := true, slotNames := [], subclasses := [(.ref 617)], abstract := false, collection := none, hasDel := false }, slots := #[some (.ref 131), none, some (.str "TextIOBase" 489), some (.str "TextIOBase" 497), some .none, some (.bool true)] }
noncomputable def ob380 (p : Program) (P : Params) : Obj := { cls := (.type "tuple"), data := .seq #[(.str "" 783), (.str "\n" 784)] 0 }
noncomputable def ob386 (p : Program) (P : Params) : Obj := { cls := (.type "code"), data := .fields #[(.str "__init__" 785), (.str "StringIO.__init__" 786), (.str "/claim/cut.py" 787), (.int (218) 0), (.int (3) 0), (.int (0) 0), (.int (0) 0), (.int (3) 0), (.ref 381), (.bool true), (.int (318) 0), (.ref 382), .none, (.ref 383), (.ref 384), (.ref 385), (.int (791) 0), (.int (218) 0), (.str "/claim/cut.py" 792)] }
noncomputable def ob387 (p : Program) (P : Params) : Obj := { cls := (.type "function"), data := .func (oFd "__init__" "StringIO.__init__" (oSub (oSt p 15) 1) 3 (.ref 380) (.str "io" 399) (.ref 386)) }
noncomputable def ob393 (p : Program) (P : Params) : Obj := { cls := (.type "code"), data := .fields #[(.str "__translated" 794), (.str "StringIO.__translated" 795), (.str "/claim/cut.py" 796), (.int (231) 0), (.int (2) 0), (.int (0) 0), (.int (0) 0), (.int (3) 0), (.ref 388), (.bool true), (.int (318) 0), (.ref 389), .none, (.ref 390), (.ref 391), (.ref 392), (.int (800) 0), (.int (231) 0), (.str "/claim/cut.py" 801)] }
noncomputable def ob394 (p : Program) (P : Params) : Obj := { cls := (.type "function"), data := .func (oFd "__translated" "StringIO.__translated" (oSub (oSt p 15) 2) 3 .none (.str "io" 399) (.ref 393)) }
noncomputable def ob400 (p : Program) (P : Params) : Obj := { cls := (.type "code"), data := .fields #[(.str "__check" 803), (.str "StringIO.__check" 804), (.str "/claim/cut.py" 805), (.int (239) 0), (.int (1) 0), (.int (0) 0), (.int (0) 0), (.int (3) 0), (.ref 395), (.bool true), (.int (318) 0), (.ref 396), .none, (.ref 397), (.ref 398), (.ref 399), (.int (807) 0), (.int (239) 0), (.str "/claim/cut.py" 808)] }
noncomputable def ob401 (p : Program) (P : Params) : Obj := { cls := (.type "function"), data := .func (oFd "__check" "StringIO.__check" (oSub (oSt p 15) 3) 3 .none (.str "io" 399) (.ref 400)) }
noncomputable def ob556 (p : Program) (P : Params) : Obj := { cls := (.type "tuple"), data := .seq #[(.int (-1) 976)] 0 }
noncomputable def ob562 (p : Program) (P : Params) : Obj := { cls := (.type "code"), data := .fields #[(.str "read" 977), (.str "StringIO.read" 978), (.str "/claim/cut.py" 979), (.int (361) 0), (.int (2) 0), (.int (2) 0), (.int (0) 0), (.int (3) 0), (.ref 557), (.bool true), (.int (318) 0), (.ref 558), .none, (.ref 559), (.ref 560), (.ref 561), (.int (984) 0), (.int (361) 0), (.str "/claim/cut.py" 985)] }
noncomputable def ob563 (p : Program) (P : Params) : Obj := { cls := (.type "function"), data := .func (oFd "read" "StringIO.read" (oSub (oSt p 15) 25) 3 (.ref 556) (.str "io" 399) (.ref 562)) }
noncomputable def ob616 (p : Program) (P : Params) : Obj := { cls := (.type "dict"), data := .dict #[oEn P "__module__" 776 (.str "_io" 781), oEn P "__firstlineno__" 780 (.int (215) 779), oEn P "__init__" 793 (.ref 387), oEn P "_StringIO__translated" 802 (.ref 394), oEn P "_StringIO__check" 809 (.ref 401), oEn P "_StringIO__check_dot" 816 (.ref 408), oEn P "_StringIO__line" 831 (.ref 415), oEn P "closed" 839 (.ref 423), oEn P "line_buffering" 847 (.ref 431), oEn P "newlines" 855 (.ref 439), oEn P "encoding" 863 (.ref 447), oEn P "errors" 871 (.ref 455), oEn P "close" 878 (.ref 462), oEn P "__enter__" 885 (.ref 469), oEn P "__exit__" 893 (.ref 476), oEn P "readable" 900 (.ref 483), oEn P "writable" 907 (.ref 490), oEn P "seekable" 914 (.ref 497), oEn P "isatty" 921 (.ref 504), oEn P "flush" 928 (.ref 511), oEn P "fileno" 935 (.ref 518), oEn P "detach" 942 (.ref 525), oEn P "getvalue" 949 (.ref 532), oEn P "tell" 956 (.ref 539), oEn P "seek" 966 (.ref 547), oEn P "truncate" 974 (.ref 555), oEn P "read" 986 (.ref 563), oEn P "readline" 996 (.ref 571), oEn P "readlines" 1006 (.ref 579), oEn P "__iter__" 1013 (.ref 586), oEn P "__next__" 1021 (.ref 593), oEn P "write" 1033 (.ref 600), oEn P "writelines" 1041 (.ref 607), oEn P "__repr__" 1048 (.ref 614), oEn P "__static_attributes__" 1052 (.ref 615), oEn P "__doc__" 1053 .none] 2 }
noncomputable def ob617 (p : Program) (P : Params) : Obj := { cls := (.type "type"), data := .cls { name := "StringIO", bases := [(.ref 140)], mro := [(.ref 617), (.ref 140), (.ref 113), (.type "object")], ns := 616, qualname := "StringIO", hasDict := true, slotNames := [], subclasses := [], abstract := false, collection := none, hasDel := false }, slots := #[some (.ref 373), none, some (.str "StringIO" 769), some (.str "StringIO" 777), some .none, some (.bool true)] }
noncomputable def ob669 (p : Program) (P : Params) : Obj := { cls := (.type "tuple"), data := .seq #[.none, .none, (.bool false), (.bool false)] 0 }
noncomputable def ob675 (p : Program) (P : Params) : Obj := { cls := (.type "code"), data := .fields #[(.str "__init__" 1129), (.str "shlex.__init__" 1130), (.str "/claim/cut.py" 1131), (.int (487) 0), (.int (5) 0), (.int (0) 0), (.int (0) 0), (.int (3) 0), (.ref 670), (.bool true), (.int (318) 0), (.ref 671), .none, (.ref 672), (.ref 673), (.ref 674), (.int (1138) 0), (.int (487) 0), (.str "/claim/cut.py" 1139)] }
noncomputable def ob676 (p : Program) (P : Params) : Obj := { cls := (.type "function"), data := .func (oFd "__init__" "shlex.__init__" (oSub (oSt p 25) 0) 3 (.ref 669) (.str "cpy313.shlex" 1115) (.ref 675)) }
noncomputable def ob682 (p : Program) (P : Params) : Obj := { cls := (.type "code"), data := .fields #[(.str "punctuation_chars" 1141), (.str "shlex.punctuation_chars" 1142), (.str "/claim/cut.py" 1143), (.int (528) 0), (.int (1) 0), (.int (0) 0), (.int (0) 0), (.int (3) 0), (.ref 677), (.bool true), (.int (318) 0), (.ref 678), .none, (.ref 679), (.ref 680), (.ref 681), (.int (1145) 0), (.int (528) 0), (.str "/claim/cut.py" 1146)] }
noncomputable def ob683 (p : Program) (P : Params) : Obj := { cls := (.type "function"), data := .func (oFd "punctuation_chars" "shlex.punctuation_chars" (oSub (oSt p 25) 1) 3 .none (.str "cpy313.shlex" 1115) (.ref 682)) }
noncomputable def ob684 (p : Program) (P : Params) : Obj := { cls := (.type "property"), data := .fields #[(.ref 683), .none, .none, .none, (.str "punctuation_chars" 1148), (.bool false)] }
noncomputable def ob712 (p : Program) (P : Params) : Obj := { cls := (.type "code"), data := .fields #[(.str "get_token" 1173), (.str "shlex.get_token" 1174), (.str "/claim/cut.py" 1175), (.int (555) 0), (.int (1) 0), (.int (0) 0), (.int (0) 0), (.int (3) 0), (.ref 707), (.bool true), (.int (318) 0), (.ref 708), .none, (.ref 709), (.ref 710), (.ref 711), (.int (1182) 0), (.int (555) 0), (.str "/claim/cut.py" 1183)] }
noncomputable def ob713 (p : Program) (P : Params) : Obj := { cls := (.type "function"), data := .func (oFd "get_token" "shlex.get_token" (oSub (oSt p 25) 5) 3 .none (.str "cpy313.shlex" 1115) (.ref 712)) }
noncomputable def ob719 (p : Program) (P : Params) : Obj := { cls := (.type "code"), data := .fields #[(.str "read_token" 1185), (.str "shlex.read_token" 1186), (.str "/claim/cut.py" 1187), (.int (582) 0), (.int (1) 0), (.int (0) 0), (.int (0) 0), (.int (3) 0), (.ref 714), (.bool true), (.int (318) 0), (.ref 715), .none, (.ref 716), (.ref 717), (.ref 718), (.int (1193) 0), (.int (582) 0), (.str "/claim/cut.py" 1194)] }
noncomputable def ob720 (p : Program) (P : Params) : Obj := { cls := (.type "function"), data := .func (oFd "read_token" "shlex.read_token" (oSub (oSt p 25) 6) 3 .none (.str "cpy313.shlex" 1115) (.ref 719)) }
noncomputable def ob741 (p : Program) (P : Params) : Obj := { cls := (.type "code"), data := .fields #[(.str "__iter__" 1213), (.str "shlex.__iter__" 1214), (.str "/claim/cut.py" 1215), (.int (729) 0), (.int (1) 0), (.int (0) 0), (.int (0) 0), (.int (3) 0), (.ref 736), (.bool true), (.int (318) 0), (.ref 737), .none, (.ref 738), (.ref 739), (.ref 740), (.int (1217) 0), (.int (729) 0), (.str "/claim/cut.py" 1218)] }
noncomputable def ob742 (p : Program) (P : Params) : Obj := { cls := (.type "function"), data := .func (oFd "__iter__" "shlex.__iter__" (oSub (oSt p 25) 9) 3 .none (.str "cpy313.shlex" 1115) (.ref 741)) }
noncomputable def ob748 (p : Program) (P : Params) : Obj := { cls := (.type "code"), data := .fields #[(.str "__next__" 1220), (.str "shlex.__next__" 1221), (.str "/claim/cut.py" 1222), (.int (732) 0), (.int (1) 0), (.int (0) 0), (.int (0) 0), (.int (3) 0), (.ref 743), (.bool true), (.int (318) 0), (.ref 744), .none, (.ref 745), (.ref 746), (.ref 747), (.int (1225) 0), (.int (732) 0), (.str "/claim/cut.py" 1226)] }
noncomputable def ob749 (p : Program) (P : Params) : Obj := { cls := (.type "function"), data := .func (oFd "__next__" "shlex.__next__" (oSub (oSt p 25) 10) 3 .none (.str "cpy313.shlex" 1115) (.ref 748)) }
noncomputable def ob751 (p : Program) (P : Params) : Obj := { cls := (.type "dict"), data := .dict #[oEn P "__module__" 1124 (.str "cpy313.shlex" 1115), oEn P "__firstlineno__" 1128 (.int (485) 1127), oEn P "__init__" 1140 (.ref 676), oEn P "punctuation_chars" 1148 (.ref 684), oEn P "push_token" 1156 (.ref 691), oEn P "push_source" 1165 (.ref 699), oEn P "pop_source" 1172 (.ref 706), oEn P "get_token" 1184 (.ref 713), oEn P "read_token" 1195 (.ref 720), oEn P "sourcehook" 1203 (.ref 727), oEn P "error_leader" 1212 (.ref 735), oEn P "__iter__" 1219 (.ref 742), oEn P "__next__" 1227 (.ref 749), oEn P "__static_attributes__" 1248 (.ref 750), oEn P "__dict__" 1250 (.ref 753), oEn P "__weakref__" 1252 (.ref 754), oEn P "__doc__" 1253 .none] 4 }
noncomputable def ob752 (p : Program) (P : Params) : Obj := { cls := (.type "type"), data := .cls { name := "shlex", bases := [(.type "object")], mro := [(.ref 752), (.type "object")], ns := 751, qualname := "shlex", hasDict := true, slotNames := [], subclasses := [], abstract := false, collection := none, hasDel := false }, slots := #[none, none, some (.str "shlex" 1117), some (.str "shlex" 1125), some (.builtin "object.__new__"), some (.bool true)] }
noncomputable def ob753 (p : Program) (P : Params) : Obj := { cls := (.type "getset_descriptor"), data := .fields #[(.str "__dict__" 1249), (.ref 752), (.builtin "function.__dict__"), (.builtin "function.__dict__#set")] }
noncomputable def ob754 (p : Program) (P : Params) : Obj := { cls := (.type "getset_descriptor"), data := .fields #[(.str "__weakref__" 1251), (.ref 752), (.builtin "ExceptionGroup.__weakref__"), .none] }
noncomputable def ob757 (p : Program) (P : Params) : Obj := { cls := (.type "tuple"), data := .seq #[(.bool false), (.bool true)] 0 }
noncomputable def ob763 (p : Program) (P : Params) : Obj := { cls := (.type "code"), data := .fields #[(.str "split" 1256), (.str "split" 1257), (.str "/claim/cut.py" 1258), (.int (737) 0), (.int (3) 0), (.int (0) 0), (.int (0) 0), (.int (3) 0), (.ref 758), (.bool true), (.int (318) 0), (.ref 759), .none, (.ref 760), (.ref 761), (.ref 762), (.int (1263) 0), (.int (737) 0), (.str "/claim/cut.py" 1264)] }
noncomputable def ob764 (p : Program) (P : Params) : Obj := { cls := (.type "function"), data := .func (oFd "split" "split" (oSt p 26) 3 (.ref 757) (.str "cpy313.shlex" 1115) (.ref 763)) }
noncomputable def ob765 (p : Program) (P : Params) : Obj := { cls := (.type "tuple"), data := .seq #[] 0 }
noncomputable def ob767 (p : Program) (P : Params) : Obj := { cls := (.type "tuple"), data := .seq #[(.str "split_command" 1269)] 0 }
noncomputable def ob768 (p : Program) (P : Params) : Obj := { cls := (.type "tuple"), data := .seq #[] 0 }
noncomputable def ob770 (p : Program) (P : Params) : Obj := { cls := (.type "code"), data := .fields #[(.str "join" 1266), (.str "join" 1267), (.str "/claim/cut.py" 1268), (.int (745) 0), (.int (1) 0), (.int (0) 0), (.int (0) 0), (.int (3) 0), (.ref 765), (.bool true), (.int (318) 0), (.ref 766), .none, (.ref 767), (.ref 768), (.ref 769), (.int (1270) 0), (.int (745) 0), (.str "/claim/cut.py" 1271)] }
noncomputable def ob771 (p : Program) (P : Params) : Obj := { cls := (.type "function"), data := .func (oFd "join" "join" (oSt p 27) 3 .none (.str "cpy313.shlex" 1115) (.ref 770)) }
noncomputable def ob772 (p : Program) (P : Params) : Obj := { cls := (.type "builtin_function_or_method"), data := .fields #[(.builtin "re.Pattern.search"), (.ref 69)] }
noncomputable def ob778 (p : Program) (P : Params) : Obj := { cls := (.type "code"), data := .fields #[(.str "quote" 1276), (.str "quote" 1277), (.str "/claim/cut.py" 1278), (.int (749) 0), (.int (1) 0), (.int (0) 0), (.int (0) 0), (.int (3) 0), (.ref 773), (.bool true), (.int (318) 0), (.ref 774), .none, (.ref 775), (.ref 776), (.ref 777), (.int (1280) 0), (.int (749) 0), (.str "/claim/cut.py" 1281)] }
noncomputable def ob779 (p : Program) (P : Params) : Obj := { cls := (.type "function"), data := .func (oFd "quote" "quote" (oSt p 30) 3 .none (.str "cpy313.shlex" 1115) (.ref 778)) }
noncomputable def ob785 (p : Program) (P : Params) : Obj := { cls := (.type "code"), data := .fields #[(.str "sorted_list_difference" 1285), (.str "sorted_list_difference" 1286), (.str "/claim/cut.py" 1287), (.int (756) 0), (.int (2) 0), (.int (0) 0), (.int (0) 0), (.int (3) 0), (.ref 780), (.bool true), (.int (318) 0), (.ref 781), .none, (.ref 782), (.ref 783), (.ref 784), (.int (1296) 0), (.int (756) 0), (.str "/claim/cut.py" 1297)] }
noncomputable def ob786 (p : Program) (P : Params) : Obj := { cls := (.type "function"), data := .func (oFd "sorted_list_difference" "sorted_list_difference" (oSt p 32) 3 .none (.str "cpy313.unittest.util" 1283) (.ref 785)) }
noncomputable def ob792 (p : Program) (P : Params) : Obj := { cls := (.type "code"), data := .fields #[(.str "_law_word" 1301), (.str "_law_word" 1302), (.str "/claim/cut.py" 1303), (.int (789) 0), (.int (1) 0), (.int (0) 0), (.int (0) 0), (.int (3) 0), (.ref 787), (.bool true), (.int (318) 0), (.ref 788), .none, (.ref 789), (.ref 790), (.ref 791), (.int (1306) 0), (.int (789) 0), (.str "/claim/cut.py" 1307)] }
noncomputable def ob793 (p : Program) (P : Params) : Obj := { cls := (.type "function"), data := .func (oFd "_law_word" "_law_word" (oSt p 34) 3 .none (.str "law_oc0270_01" 1299) (.ref 792)) }
noncomputable def ob797 (p : Program) (P : Params) : Obj := { cls := (.type "code"), data := .fields #[(.str "_law_table" 1309), (.str "_law_table" 1310), (.str "/claim/cut.py" 1311), (.int (795) 0), (.int (1) 0), (.int (0) 0), (.int (0) 0), (.int (3) 0), (.ref 794), (.bool true), (.int (318) 0), (.ref 795), .none, .none, .none, (.ref 796), (.int (1312) 0), (.int (795) 0), (.str "/claim/cut.py" 1313)] }
noncomputable def ob798 (p : Program) (P : Params) : Obj := { cls := (.type "function"), data := .func (oFd "_law_table" "_law_table" (oSt p 35) 3 .none (.str "law_oc0270_01" 1299) (.ref 797)) }
noncomputable def ob802 (p : Program) (P : Params) : Obj := { cls := (.type "code"), data := .fields #[(.str "_law_shelf" 1315), (.str "_law_shelf" 1316), (.str "/claim/cut.py" 1317), (.int (800) 0), (.int (2) 0), (.int (0) 0), (.int (0) 0), (.int (3) 0), (.ref 799), (.bool true), (.int (318) 0), (.ref 800), .none, .none, .none, (.ref 801), (.int (1318) 0), (.int (800) 0), (.str "/claim/cut.py" 1319)] }
noncomputable def ob803 (p : Program) (P : Params) : Obj := { cls := (.type "function"), data := .func (oFd "_law_shelf" "_law_shelf" (oSt p 36) 3 .none (.str "law_oc0270_01" 1299) (.ref 802)) }
noncomputable def ob807 (p : Program) (P : Params) : Obj := { cls := (.type "code"), data := .fields #[(.str "_law_read" 1321), (.str "_law_read" 1322), (.str "/claim/cut.py" 1323), (.int (802) 0), (.int (2) 0), (.int (0) 0), (.int (0) 0), (.int (3) 0), (.ref 804), (.bool true), (.int (318) 0), (.ref 805), .none, .none, .none, (.ref 806), (.int (1324) 0), (.int (802) 0), (.str "/claim/cut.py" 1325)] }
noncomputable def ob808 (p : Program) (P : Params) : Obj := { cls := (.type "function"), data := .func (oFd "_law_read" "_law_read" (oSt p 37) 3 .none (.str "law_oc0270_01" 1299) (.ref 807)) }
noncomputable def ob812 (p : Program) (P : Params) : Obj := { cls := (.type "code"), data := .fields #[(.str "_law_due" 1327), (.str "_law_due" 1328), (.str "/claim/cut.py" 1329), (.int (805) 0), (.int (2) 0), (.int (0) 0), (.int (0) 0), (.int (3) 0), (.ref 809), (.bool true), (.int (318) 0), (.ref 810), .none, .none, .none, (.ref 811), (.int (1330) 0), (.int (805) 0), (.str "/claim/cut.py" 1331)] }
noncomputable def ob813 (p : Program) (P : Params) : Obj := { cls := (.type "function"), data := .func (oFd "_law_due" "_law_due" (oSt p 38) 3 .none (.str "law_oc0270_01" 1299) (.ref 812)) }
noncomputable def ob817 (p : Program) (P : Params) : Obj := { cls := (.type "code"), data := .fields #[(.str "_law_changed" 1333), (.str "_law_changed" 1334), (.str "/claim/cut.py" 1335), (.int (807) 0), (.int (2) 0), (.int (0) 0), (.int (0) 0), (.int (3) 0), (.ref 814), (.bool true), (.int (318) 0), (.ref 815), .none, .none, .none, (.ref 816), (.int (1336) 0), (.int (807) 0), (.str "/claim/cut.py" 1337)] }
noncomputable def ob818 (p : Program) (P : Params) : Obj := { cls := (.type "function"), data := .func (oFd "_law_changed" "_law_changed" (oSt p 39) 3 .none (.str "law_oc0270_01" 1299) (.ref 817)) }
noncomputable def ob824 (p : Program) (P : Params) : Obj := { cls := (.type "code"), data := .fields #[(.str "_law_kept" 1339), (.str "_law_kept" 1340), (.str "/claim/cut.py" 1341), (.int (815) 0), (.int (1) 0), (.int (0) 0), (.int (0) 0), (.int (3) 0), (.ref 819), (.bool true), (.int (318) 0), (.ref 820), .none, (.ref 821), (.ref 822), (.ref 823), (.int (1343) 0), (.int (815) 0), (.str "/claim/cut.py" 1344)] }
noncomputable def ob825 (p : Program) (P : Params) : Obj := { cls := (.type "function"), data := .func (oFd "_law_kept" "_law_kept" (oSt p 40) 3 .none (.str "law_oc0270_01" 1299) (.ref 824)) }
noncomputable def ob831 (p : Program) (P : Params) : Obj := { cls := (.type "code"), data := .fields #[(.str "_law_voted" 1346), (.str "_law_voted" 1347), (.str "/claim/cut.py" 1348), (.int (819) 0), (.int (1) 0), (.int (0) 0), (.int (0) 0), (.int (3) 0), (.ref 826), (.bool true), (.int (318) 0), (.ref 827), .none, (.ref 828), (.ref 829), (.ref 830), (.int (1350) 0), (.int (819) 0), (.str "/claim/cut.py" 1351)] }
noncomputable def ob832 (p : Program) (P : Params) : Obj := { cls := (.type "function"), data := .func (oFd "_law_voted" "_law_voted" (oSt p 41) 3 .none (.str "law_oc0270_01" 1299) (.ref 831)) }
noncomputable def ob836 (p : Program) (P : Params) : Obj := { cls := (.type "code"), data := .fields #[(.str "law" 1353), (.str "law" 1354), (.str "/claim/cut.py" 1355), (.int (821) 0), (.int (1) 0), (.int (0) 0), (.int (0) 0), (.int (3) 0), (.ref 833), (.bool true), (.int (318) 0), (.ref 834), .none, .none, .none, (.ref 835), (.int (1356) 0), (.int (821) 0), (.str "/claim/cut.py" 1357)] }
noncomputable def ob837 (p : Program) (P : Params) : Obj := { cls := (.type "function"), data := .func (oFd "law" "law" (oSt p 42) 3 .none (.str "law_oc0270_01" 1299) (.ref 836)) }
noncomputable def ob2 (p : Program) (P : Params) : Obj := { cls := .none, data := .dict #[oEnC P ⟨#[105, 109, 112, 111, 114, 116, 46, 108, 111, 97, 100, 101, 100, 46, 95, 115, 114, 101]⟩ 183 (.bool true), oEn P "class._frozen_importlib.BuiltinImporter" 185 (.ref 14), oEnC P ⟨#[119, 97, 116, 99, 104, 101, 100, 46, 105, 109, 112, 111, 114, 116]⟩ 206 (.ref 18), oEn P "class._frozen_importlib.ModuleSpec" 216 (.ref 22), oEn P "sys.modules.booked-epoch" 245 (.int 4 0), oEnC P ⟨#[105, 109, 112, 111, 114, 116, 46, 108, 97, 116, 101, 114, 45, 108, 97, 105, 100, 46, 95, 115, 114, 101]⟩ 270 (.bool true), oEn P "watched.library" 272 (.ref 27), oEn P "watched.library-objects" 0 (.str ⟨#[12, 30]⟩ 0), oEn P "watched.library-deep._sre" 273 (.str ⟨#[4, 0, 0, 11, 4, 0, 0, 11, 4, 0, 0, 3, 4, 0, 0, 11, 8, 4, 100, 105, 99, 116, 2]⟩ 0), oEnC P ⟨#[105, 109, 112, 111, 114, 116, 46, 108, 111, 97, 100, 101, 100, 46, 95, 99, 111, 108, 108, 101, 99, 116, 105, 111, 110, 115]⟩ 280 (.bool true), oEn P "sys.modules.landed._collections" 294 (.bool true), oEnC P ⟨#[105, 109, 112, 111, 114, 116, 46, 108, 97, 116, 101, 114, 45, 108, 97, 105, 100, 46, 95, 99, 111, 108, 108, 101, 99, 116, 105, 111, 110, 115]⟩ 309 (.bool true), oEn P "watched.library-deep._collections" 311 (.str ⟨#[4, 0, 0, 29, 4, 0, 0, 29, 4, 0, 0, 3, 4, 0, 0, 29, 8, 4, 100, 105, 99, 116, 2]⟩ 0), oEn P "type.__subclasses__.OSError.0" 435 (.int 93 0), oEn P "type.__subclasses__.OSError.n" 436 (.int 1 0)] 15 }
noncomputable def ob370 (p : Program) (P : Params) : Obj := { cls := (.type "type"), data := .cls { name := "BytesIO", bases := [(.ref 128)], mro := [(.ref 370), (.ref 128), (.ref 113), (.type "object")], ns := 369, qualname := "BytesIO", hasDict := true, slotNames := [], subclasses := [], abstract := false, collection := none, hasDel := false }, slots := #[some (.ref 143), none, some (.str "BytesIO" 507), some (.str "BytesIO" 515), some .none, some (.bool true)] }
noncomputable def KK (p : Program) (P : Params) : Frag := [(3, ob3 p P), (63, ob63 p P), (64, ob64 p P), (68, ob68 p P), (69, ob69 p P), (82, ob82 p P), (83, ob83 p P), (109, ob109 p P), (110, ob110 p P), (112, ob112 p P), (113, ob113 p P), (114, ob114 p P), (115, ob115 p P), (116, ob116 p P), (139, ob139 p P), (140, ob140 p P), (380, ob380 p P), (386, ob386 p P), (387, ob387 p P), (393, ob393 p P), (394, ob394 p P), (400, ob400 p P), (401, ob401 p P), (556, ob556 p P), (562, ob562 p P), (563, ob563 p P), (616, ob616 p P), (617, ob617 p P), (669, ob669 p P), (675, ob675 p P), (676, ob676 p P), (682, ob682 p P), (683, ob683 p P), (684, ob684 p P), (712, ob712 p P), (713, ob713 p P), (719, ob719 p P), (720, ob720 p P), (741, ob741 p P), (742, ob742 p P), (748, ob748 p P), (749, ob749 p P), (751, ob751 p P), (752, ob752 p P), (753, ob753 p P), (754, ob754 p P), (757, ob757 p P), (763, ob763 p P), (764, ob764 p P), (765, ob765 p P), (767, ob767 p P), (768, ob768 p P), (770, ob770 p P), (771, ob771 p P), (772, ob772 p P), (778, ob778 p P), (779, ob779 p P), (785, ob785 p P), (786, ob786 p P), (792, ob792 p P), (793, ob793 p P), (797, ob797 p P), (798, ob798 p P), (802, ob802 p P), (803, ob803 p P), (807, ob807 p P), (808, ob808 p P), (812, ob812 p P), (813, ob813 p P), (817, ob817 p P), (818, ob818 p P), (824, ob824 p P), (825, ob825 p P), (831, ob831 p P), (832, ob832 p P), (836, ob836 p P), (837, ob837 p P), (2, ob2 p P), (370, ob370 p P)]
noncomputable def KA : List Addr := [3, 63, 64, 68, 69, 82, 83, 109, 110, 112, 113, 114, 115, 116, 139, 140, 380, 386, 387, 393, 394, 400, 401, 556, 562, 563, 616, 617, 669, 675, 676, 682, 683, 684, 712, 713, 719, 720, 741, 742, 748, 749, 751, 752, 753, 754, 757, 763, 764, 765, 767, 768, 770, 771, 772, 778, 779, 785, 786, 792, 793, 797, 798, 802, 803, 807, 808, 812, 813, 817, 818, 824, 825, 831, 832, 836, 837, 2, 370]
noncomputable def ob766 : Obj := { cls := .none, data := .fields #[] }
noncomputable def K0 (p : Program) (P : Params) : Frag := (766, ob766) :: KK p P
noncomputable def KA0 : List Addr := 766 :: KA
noncomputable def lawQ (p : Program) : Program := view p [42]
noncomputable def lawLoose : List Str := (["_sre", "deque", "_wall", "StatisticsError", "median_low", "_twin_re_1", "_whence", "_index", "UnsupportedOperation", "IOBase", "BufferedIOBase", "TextIOBase", "BytesIO", "StringIO", "_kind", "_fspath", "_check_arg_types", "isabs", "join", "join_path", "dirname", "shlex", "split", "join_shlex", "_find_unsafe", "quote", "sorted_list_difference", "_law_word", "_law_table", "_law_shelf", "_law_read", "_law_due", "_law_changed", "_law_kept", "_law_voted"] : List String).map Str.ofString
noncomputable def lawXt : Shared → Bool := fun s => recOk [] s
end
end Mine
namespace Mine
section
set_option maxRecDepth 1000000
set_option maxHeartbeats 0
theorem big (w : World) : (runAll PySem.W.Fast.tw14789777615569096658 PySem.W.Fast.tw10295753902157049106 PySem.W.Fast.tw14364793385576792824 PySem.Challenge.pw_oc0270_01 w 1085 5440).map (fun x => (chkTop PySem.Challenge.pw_oc0270_01 KA0 x.1 x.2, openSeen (lawQ PySem.Challenge.pw_oc0270_01) lawLoose (importedModules PySem.Challenge.pw_oc0270_01.main.body) lawXt true x.2.abs, obsT KA0 x.2)) =
      some (true, openGood (lawQ PySem.Challenge.pw_oc0270_01) lawLoose, (K0 PySem.Challenge.pw_oc0270_01 w.params).map fun p => some p.2) := by
  kernel_rfl
end
end Mine
namespace Mine
section
set_option maxRecDepth 1000000
set_option maxHeartbeats 0
abbrev pw : Program := PySem.Challenge.pw_oc0270_01
theorem big' (w : World) : (runAll impGoT segGoT treeTable PySem.Challenge.pw_oc0270_01 w 1085 5440).map (fun x => (chkTop PySem.Challenge.pw_oc0270_01 KA0 x.1 x.2, openSeen (lawQ PySem.Challenge.pw_oc0270_01) lawLoose (importedModules PySem.Challenge.pw_oc0270_01.main.body) lawXt true x.2.abs, obsT KA0 x.2)) =
      some (true, openGood (lawQ PySem.Challenge.pw_oc0270_01) lawLoose, (K0 PySem.Challenge.pw_oc0270_01 w.params).map fun p => some p.2) := by
  have h := big w
  rw [← PySem.W.Fast.te14789777615569096658, ← PySem.W.Fast.te10295753902157049106, ← PySem.W.Fast.te14364793385576792824] at h
  exact h
theorem left' : LeftO PySem.Challenge.pw_oc0270_01 (lawQ PySem.Challenge.pw_oc0270_01) lawLoose lawXt (fun s => KA0.map s.heap.get?) (fun w => (K0 PySem.Challenge.pw_oc0270_01 w.params).map fun p => some p.2) 10980 :=
  left_of big' (by decide) (by decide)
end
end Mine
namespace Mine
section
set_option maxRecDepth 1000000
set_option maxHeartbeats 4000000
def lawPos : Pos := match oSt pw 42 with | .FunctionDef _ _ _ _ _ _ _ _ _ p => p | _ => default
def lawD : DefRec := { name := "law", params := oArgs (oSt pw 42), body := oBody (oSt pw 42), scope := oScope (oSt pw 42), pos := lawPos }
abbrev theWalk : Prop := WalkO (lawQ pw) lawLoose (fun _ _ => True) (InK (K0 pw)) PySem.Challenge.rw_oc0270_01.row.toRowW lawD [] (fun f vs => PySem.call f vs)
theorem hd (h : theWalk) : PySem.Challenge.rw_oc0270_01.row.wellSaid = true → PySem.Challenge.rw_oc0270_01.row.Holds := by
  intro said
  refine PySem.W.holds_open (q := Mine.lawQ Mine.pw) (loose := Mine.lawLoose) (Xt := Mine.lawXt) (XP := fun _ _ => True) (α := List (Option Obj)) (Yf := fun s => Mine.KA0.map s.heap.get?) (Ya := fun w => (Mine.K0 Mine.pw w.params).map fun (p : Addr × Obj) => some p.2) (YP := InK (Mine.K0 Mine.pw)) (N := 10980) (d := lawD) (kwd := []) Mine.left' (InK.of (fun _ => by kernel_rfl!)) InK.keeps (fun _ _ => trivial) (fun _ _ _ _ _ => trivial) (by kernel_rfl!) (by kernel_rfl!) (by kernel_rfl!) (fun s e => recFacts_of e) (by rfl) said (by decide +kernel) ⟨rfl, rfl, rfl, rfl, rfl, by decide +kernel⟩ ?hw h
  case hw => w_witness2
end
end Mine
namespace Mine
set_option maxRecDepth 100000
set_option maxHeartbeats 4000000
/-! ## Facts of the top -/
structure Ok (w : World) (h : Heap) : Prop where
  K : (KK pw w.params).In h
  lim : h.NoLimit
  blt : ∃ mb, h.Ns builtinsNs mb ∧ ∀ x : Str, x ≠ "__name__" → mb x = bootBuiltins x
section
variable {w : World} {h h' : Heap}
theorem Ok.keeps (x : Ok w h) (k : ∀ b o, h.get? b = some o → h'.get? b = some o) : Ok w h' :=
  ⟨x.K.keeps k, x.lim.keeps k, let ⟨mb, a, b⟩ := x.blt; ⟨mb, a.keeps k, b⟩⟩
theorem codeRec {c : Addr} {o : Obj} {vs : Array Value} {q : Str} {t : Tok} (ho : h.get? c = some o) (hv : o.data = .fields vs) (h1 : vs[1]? = some (.str q t)) : h.CodeRec (.ref c) q := ⟨c, o, vs, t, rfl, ho, hv, h1⟩
theorem a3 (x : Ok w h) : h.get? 3 = some (ob3 pw w.params) := x.K _ _ (by kernel_rfl!)
theorem a63 (x : Ok w h) : h.get? 63 = some (ob63 pw w.params) := x.K _ _ (by kernel_rfl!)
theorem a64 (x : Ok w h) : h.get? 64 = some (ob64 pw w.params) := x.K _ _ (by kernel_rfl!)
theorem a68 (x : Ok w h) : h.get? 68 = some (ob68 pw w.params) := x.K _ _ (by kernel_rfl!)
theorem a69 (x : Ok w h) : h.get? 69 = some (ob69 pw w.params) := x.K _ _ (by kernel_rfl!)
theorem a82 (x : Ok w h) : h.get? 82 = some (ob82 pw w.params) := x.K _ _ (by kernel_rfl!)
theorem a83 (x : Ok w h) : h.get? 83 = some (ob83 pw w.params) := x.K _ _ (by kernel_rfl!)
theorem a109 (x : Ok w h) : h.get? 109 = some (ob109 pw w.params) := x.K _ _ (by kernel_rfl!)
theorem a110 (x : Ok w h) : h.get? 110 = some (ob110 pw w.params) := x.K _ _ (by kernel_rfl!)
theorem a112 (x : Ok w h) : h.get? 112 = some (ob112 pw w.params) := x.K _ _ (by kernel_rfl!)
theorem a113 (x : Ok w h) : h.get? 113 = some (ob113 pw w.params) := x.K _ _ (by kernel_rfl!)
theorem a114 (x : Ok w h) : h.get? 114 = some (ob114 pw w.params) := x.K _ _ (by kernel_rfl!)
theorem a115 (x : Ok w h) : h.get? 115 = some (ob115 pw w.params) := x.K _ _ (by kernel_rfl!)
theorem a116 (x : Ok w h) : h.get? 116 = some (ob116 pw w.params) := x.K _ _ (by kernel_rfl!)
theorem a139 (x : Ok w h) : h.get? 139 = some (ob139 pw w.params) := x.K _ _ (by kernel_rfl!)
theorem a140 (x : Ok w h) : h.get? 140 = some (ob140 pw w.params) := x.K _ _ (by kernel_rfl!)
theorem a380 (x : Ok w h) : h.get? 380 = some (ob380 pw w.params) := x.K _ _ (by kernel_rfl!)
theorem a386 (x : Ok w h) : h.get? 386 = some (ob386 pw w.params) := x.K _ _ (by kernel_rfl!)
theorem a387 (x : Ok w h) : h.get? 387 = some (ob387 pw w.params) := x.K _ _ (by kernel_rfl!)
theorem a393 (x : Ok w h) : h.get? 393 = some (ob393 pw w.params) := x.K _ _ (by kernel_rfl!)
theorem a394 (x : Ok w h) : h.get? 394 = some (ob394 pw w.params) := x.K _ _ (by kernel_rfl!)
theorem a400 (x : Ok w h) : h.get? 400 = some (ob400 pw w.params) := x.K _ _ (by kernel_rfl!)
theorem a401 (x : Ok w h) : h.get? 401 = some (ob401 pw w.params) := x.K _ _ (by kernel_rfl!)
theorem a556 (x : Ok w h) : h.get? 556 = some (ob556 pw w.params) := x.K _ _ (by kernel_rfl!)
theorem a562 (x : Ok w h) : h.get? 562 = some (ob562 pw w.params) := x.K _ _ (by kernel_rfl!)
theorem a563 (x : Ok w h) : h.get? 563 = some (ob563 pw w.params) := x.K _ _ (by kernel_rfl!)
theorem a616 (x : Ok w h) : h.get? 616 = some (ob616 pw w.params) := x.K _ _ (by kernel_rfl!)
theorem a617 (x : Ok w h) : h.get? 617 = some (ob617 pw w.params) := x.K _ _ (by kernel_rfl!)
theorem a669 (x : Ok w h) : h.get? 669 = some (ob669 pw w.params) := x.K _ _ (by kernel_rfl!)
theorem a675 (x : Ok w h) : h.get? 675 = some (ob675 pw w.params) := x.K _ _ (by kernel_rfl!)
theorem a676 (x : Ok w h) : h.get? 676 = some (ob676 pw w.params) := x.K _ _ (by kernel_rfl!)
theorem a682 (x : Ok w h) : h.get? 682 = some (ob682 pw w.params) := x.K _ _ (by kernel_rfl!)
theorem a683 (x : Ok w h) : h.get? 683 = some (ob683 pw w.params) := x.K _ _ (by kernel_rfl!)
theorem a684 (x : Ok w h) : h.get? 684 = some (ob684 pw w.params) := x.K _ _ (by kernel_rfl!)
theorem a712 (x : Ok w h) : h.get? 712 = some (ob712 pw w.params) := x.K _ _ (by kernel_rfl!)
theorem a713 (x : Ok w h) : h.get? 713 = some (ob713 pw w.params) := x.K _ _ (by kernel_rfl!)
theorem a719 (x : Ok w h) : h.get? 719 = some (ob719 pw w.params) := x.K _ _ (by kernel_rfl!)
theorem a720 (x : Ok w h) : h.get? 720 = some (ob720 pw w.params) := x.K _ _ (by kernel_rfl!)
theorem a741 (x : Ok w h) : h.get? 741 = some (ob741 pw w.params) := x.K _ _ (by kernel_rfl!)
theorem a742 (x : Ok w h) : h.get? 742 = some (ob742 pw w.params) := x.K _ _ (by kernel_rfl!)
theorem a748 (x : Ok w h) : h.get? 748 = some (ob748 pw w.params) := x.K _ _ (by kernel_rfl!)
theorem a749 (x : Ok w h) : h.get? 749 = some (ob749 pw w.params) := x.K _ _ (by kernel_rfl!)
theorem a751 (x : Ok w h) : h.get? 751 = some (ob751 pw w.params) := x.K _ _ (by kernel_rfl!)
theorem a752 (x : Ok w h) : h.get? 752 = some (ob752 pw w.params) := x.K _ _ (by kernel_rfl!)
theorem a753 (x : Ok w h) : h.get? 753 = some (ob753 pw w.params) := x.K _ _ (by kernel_rfl!)
theorem a754 (x : Ok w h) : h.get? 754 = some (ob754 pw w.params) := x.K _ _ (by kernel_rfl!)
theorem a757 (x : Ok w h) : h.get? 757 = some (ob757 pw w.params) := x.K _ _ (by kernel_rfl!)
theorem a763 (x : Ok w h) : h.get? 763 = some (ob763 pw w.params) := x.K _ _ (by kernel_rfl!)
theorem a764 (x : Ok w h) : h.get? 764 = some (ob764 pw w.params) := x.K _ _ (by kernel_rfl!)
theorem a765 (x : Ok w h) : h.get? 765 = some (ob765 pw w.params) := x.K _ _ (by kernel_rfl!)
theorem a767 (x : Ok w h) : h.get? 767 = some (ob767 pw w.params) := x.K _ _ (by kernel_rfl!)
theorem a768 (x : Ok w h) : h.get? 768 = some (ob768 pw w.params) := x.K _ _ (by kernel_rfl!)
theorem a770 (x : Ok w h) : h.get? 770 = some (ob770 pw w.params) := x.K _ _ (by kernel_rfl!)
theorem a771 (x : Ok w h) : h.get? 771 = some (ob771 pw w.params) := x.K _ _ (by kernel_rfl!)
theorem a772 (x : Ok w h) : h.get? 772 = some (ob772 pw w.params) := x.K _ _ (by kernel_rfl!)
theorem a778 (x : Ok w h) : h.get? 778 = some (ob778 pw w.params) := x.K _ _ (by kernel_rfl!)
theorem a779 (x : Ok w h) : h.get? 779 = some (ob779 pw w.params) := x.K _ _ (by kernel_rfl!)
theorem a785 (x : Ok w h) : h.get? 785 = some (ob785 pw w.params) := x.K _ _ (by kernel_rfl!)
theorem a786 (x : Ok w h) : h.get? 786 = some (ob786 pw w.params) := x.K _ _ (by kernel_rfl!)
theorem a792 (x : Ok w h) : h.get? 792 = some (ob792 pw w.params) := x.K _ _ (by kernel_rfl!)
theorem a793 (x : Ok w h) : h.get? 793 = some (ob793 pw w.params) := x.K _ _ (by kernel_rfl!)
theorem a797 (x : Ok w h) : h.get? 797 = some (ob797 pw w.params) := x.K _ _ (by kernel_rfl!)
theorem a798 (x : Ok w h) : h.get? 798 = some (ob798 pw w.params) := x.K _ _ (by kernel_rfl!)
theorem a802 (x : Ok w h) : h.get? 802 = some (ob802 pw w.params) := x.K _ _ (by kernel_rfl!)
theorem a803 (x : Ok w h) : h.get? 803 = some (ob803 pw w.params) := x.K _ _ (by kernel_rfl!)
theorem a807 (x : Ok w h) : h.get? 807 = some (ob807 pw w.params) := x.K _ _ (by kernel_rfl!)
theorem a808 (x : Ok w h) : h.get? 808 = some (ob808 pw w.params) := x.K _ _ (by kernel_rfl!)
theorem a812 (x : Ok w h) : h.get? 812 = some (ob812 pw w.params) := x.K _ _ (by kernel_rfl!)
theorem a813 (x : Ok w h) : h.get? 813 = some (ob813 pw w.params) := x.K _ _ (by kernel_rfl!)
theorem a817 (x : Ok w h) : h.get? 817 = some (ob817 pw w.params) := x.K _ _ (by kernel_rfl!)
theorem a818 (x : Ok w h) : h.get? 818 = some (ob818 pw w.params) := x.K _ _ (by kernel_rfl!)
theorem a824 (x : Ok w h) : h.get? 824 = some (ob824 pw w.params) := x.K _ _ (by kernel_rfl!)
theorem a825 (x : Ok w h) : h.get? 825 = some (ob825 pw w.params) := x.K _ _ (by kernel_rfl!)
theorem a831 (x : Ok w h) : h.get? 831 = some (ob831 pw w.params) := x.K _ _ (by kernel_rfl!)
theorem a832 (x : Ok w h) : h.get? 832 = some (ob832 pw w.params) := x.K _ _ (by kernel_rfl!)
theorem a836 (x : Ok w h) : h.get? 836 = some (ob836 pw w.params) := x.K _ _ (by kernel_rfl!)
theorem a370 (x : Ok w h) : h.get? 370 = some (ob370 pw w.params) := x.K _ _ (by kernel_rfl!)
theorem a837 (x : Ok w h) : h.get? 837 = some (ob837 pw w.params) := x.K _ _ (by kernel_rfl!)
theorem c63 (x : Ok w h) : h.CodeRec (.ref 63) "median_low" := codeRec (a63 x) rfl rfl
theorem c82 (x : Ok w h) : h.CodeRec (.ref 82) "_index" := codeRec (a82 x) rfl rfl
theorem c109 (x : Ok w h) : h.CodeRec (.ref 109) "IOBase.__new__" := codeRec (a109 x) rfl rfl
theorem c386 (x : Ok w h) : h.CodeRec (.ref 386) "StringIO.__init__" := codeRec (a386 x) rfl rfl
theorem c393 (x : Ok w h) : h.CodeRec (.ref 393) "StringIO.__translated" := codeRec (a393 x) rfl rfl
theorem c400 (x : Ok w h) : h.CodeRec (.ref 400) "StringIO.__check" := codeRec (a400 x) rfl rfl
theorem c562 (x : Ok w h) : h.CodeRec (.ref 562) "StringIO.read" := codeRec (a562 x) rfl rfl
theorem c675 (x : Ok w h) : h.CodeRec (.ref 675) "shlex.__init__" := codeRec (a675 x) rfl rfl
theorem c682 (x : Ok w h) : h.CodeRec (.ref 682) "shlex.punctuation_chars" := codeRec (a682 x) rfl rfl
theorem c712 (x : Ok w h) : h.CodeRec (.ref 712) "shlex.get_token" := codeRec (a712 x) rfl rfl
theorem c719 (x : Ok w h) : h.CodeRec (.ref 719) "shlex.read_token" := codeRec (a719 x) rfl rfl
theorem c741 (x : Ok w h) : h.CodeRec (.ref 741) "shlex.__iter__" := codeRec (a741 x) rfl rfl
theorem c748 (x : Ok w h) : h.CodeRec (.ref 748) "shlex.__next__" := codeRec (a748 x) rfl rfl
theorem c763 (x : Ok w h) : h.CodeRec (.ref 763) "split" := codeRec (a763 x) rfl rfl
theorem c770 (x : Ok w h) : h.CodeRec (.ref 770) "join" := codeRec (a770 x) rfl rfl
theorem c778 (x : Ok w h) : h.CodeRec (.ref 778) "quote" := codeRec (a778 x) rfl rfl
theorem c785 (x : Ok w h) : h.CodeRec (.ref 785) "sorted_list_difference" := codeRec (a785 x) rfl rfl
theorem c792 (x : Ok w h) : h.CodeRec (.ref 792) "_law_word" := codeRec (a792 x) rfl rfl
theorem c797 (x : Ok w h) : h.CodeRec (.ref 797) "_law_table" := codeRec (a797 x) rfl rfl
theorem c802 (x : Ok w h) : h.CodeRec (.ref 802) "_law_shelf" := codeRec (a802 x) rfl rfl
theorem c807 (x : Ok w h) : h.CodeRec (.ref 807) "_law_read" := codeRec (a807 x) rfl rfl
theorem c812 (x : Ok w h) : h.CodeRec (.ref 812) "_law_due" := codeRec (a812 x) rfl rfl
theorem c817 (x : Ok w h) : h.CodeRec (.ref 817) "_law_changed" := codeRec (a817 x) rfl rfl
theorem c824 (x : Ok w h) : h.CodeRec (.ref 824) "_law_kept" := codeRec (a824 x) rfl rfl
theorem c831 (x : Ok w h) : h.CodeRec (.ref 831) "_law_voted" := codeRec (a831 x) rfl rfl
theorem c836 (x : Ok w h) : h.CodeRec (.ref 836) "law" := codeRec (a836 x) rfl rfl
noncomputable def gm (P : Params) : Str → Option Value := nsFind (match (ob3 pw P).data with | .dict es _ => es | _ => #[])
theorem Ok.g (x : Ok w h) : h.Ns 3 (gm w.params) := by
  refine ⟨_, _, _, a3 x, rfl, ?_, fun _ => rfl⟩
  intro e he
  have : e ∈ (match (ob3 pw w.params).data with | .dict es _ => es | _ => #[]).toList := Array.mem_toList_iff.mpr he
  revert e
  have q : ((match (ob3 pw w.params).data with | .dict es _ => es | _ => #[]).toList.all fun (e : DictEntry) => match e.key with | .str _ _ => true | _ => false) = true := by kernel_rfl!
  intro e he hm
  have := List.all_eq_true.mp q e hm
  cases hk : e.key <;> rw [hk] at this <;> first | exact ⟨_, _, rfl⟩ | cases this
end
section
variable {w : World} {A : Around} {s : Shared} {E : Value → Shared → Prop} {env : Env}
theorem ldG {n : Str} {pos : Pos} {v : Value} {Q : Value → Shared → Prop} (x : Ok w s.heap) (hk : env.scope.kind = .function) (hl : env.kindOf n = some .globalImplicit) (hg : env.globals = 3)
    (hv : gm w.params n = some v) (h : Q v s) (hd : (n == ("__debug__" : Str)) = false) : wpAny (model pw w) A (eval (.Name n pos) env) Q E s := by
  refine wpAny_Name ?_ hd
  unfold loadName
  simp only [Env.blockKind, hk, ScopeKind.isAnnotationScope, hl, Bool.false_and, Bool.false_eq_true, if_false]
  exact Calls.loadGlobal_global (mg := gm w.params) (hg ▸ x.g) hv h
theorem ldB {n : Str} {pos : Pos} {v : Value} {Q : Value → Shared → Prop} (x : Ok w s.heap) (hk : env.scope.kind = .function) (hl : env.kindOf n = some .globalImplicit) (hg : env.globals = 3) (hb : env.builtins = builtinsNs)
    (hm : gm w.params n = none) (hv : bootBuiltins n = some v) (hn : (n == ("__name__" : Str)) = false) (h : Q v s) (hd : (n == ("__debug__" : Str)) = false) : wpAny (model pw w) A (eval (.Name n pos) env) Q E s := by
  refine wpAny_Name ?_ hd
  unfold loadName
  simp only [Env.blockKind, hk, ScopeKind.isAnnotationScope, hl, Bool.false_and, Bool.false_eq_true, if_false]
  obtain ⟨mb, h1, h2⟩ := x.blt
  refine Calls.loadGlobal_builtin (mg := gm w.params) (mb := mb) (hg ▸ x.g) hm (hb ▸ h1) ?_ h
  rw [h2 n (by intro e; rw [e] at hn; simp at hn)]; exact hv

def flowVal (fl : Flow) : Value := match fl with | .ret v => v | _ => .none
/-- a call of a plain def of the text, by the names of its parameters -/
theorem callF {f c : Addr} {nm : String} {d : Stmt} {pm : Value} {args : List Value} {binds : List (Str × Value)} {Q : Value → Shared → Prop}
    (x : Ok w s.heap) (hf : s.heap.get? f = some { cls := .type "function", data := .func (oFd nm nm d 3 .none pm (.ref c)) }) (hc : s.heap.CodeRec (.ref c) nm) (hd : A.depth < recursionLimit)
    (hbind : bindArgs (oFd nm nm d 3 .none pm (.ref c)) ⟨args, []⟩ = pure binds) (hloc : (binds.all fun x => decide ((oScope d).names.lookup x.1 = some .local)) = true)
    (h : ∀ h₁, Fr s.heap s.heap.objs.size h₁ (fun x => binds.reverse.lookup x) →
      wpAny (model pw w) (A.deeper (envOf nm (oScope d) s.heap.objs.size f (.ref c))) (execs (oBody d) (envOf nm (oScope d) s.heap.objs.size f (.ref c)))
        (fun fl s' => Q (flowVal fl) s') (fun _ _ => False) { s with heap := h₁, toks := s.toks + binds.length })
    (hsc : ((oScope d).isCoroutine || (oScope d).isGenerator || (oScope d).kind != .function || (oScope d).names.any (fun x => x.2 == .cell)) = false) :
    wpAny (model pw w) A (call (.ref f) args) Q E s := by
  simp only [Bool.or_eq_false_iff] at hsc
  obtain ⟨⟨⟨c1, c2⟩, c3⟩, c4⟩ := hsc
  have hk : (oScope d).kind = .function := by
    revert c3; cases (oScope d).kind <;> simp
  refine wpAny_call (call_plain_ret (name := nm) (params := oArgs d) (body := oBody d) (scope := oScope d) (pm := pm) (cd := .ref c) (doc := .none) hd hf rfl x.lim hc hbind (locs hloc) (fun h₁ F => ?_) c1 c2 hk ?_)
  · exact wpAny_mono (h h₁ F) (fun fl s' q => by cases fl <;> exact q) fun _ _ q => q
  · intro y hy e
    have := List.any_eq_false.mp c4 y hy
    rw [e] at this
    exact this rfl
theorem Fr.back {L : Addr} {h' : Heap} {m : Str → Option Value} {tk : Nat} (F : Fr s.heap L h' m) : Keeps s { s with heap := h', toks := tk } := ⟨h', tk, rfl, F.keep⟩
theorem Ok.fr {h₀ : Heap} {L : Addr} {h' : Heap} {m : Str → Option Value} (x : Ok w h₀) (F : Fr h₀ L h' m) : Ok w h' := x.keeps F.keep
end
/-! ## Rules of our own for the walk -/
section
variable {w : World} {A : Around} {E : Value → Shared → Prop} {s : Shared} {env : Env} {pos : Pos} {Q : Value → Shared → Prop}
variable {h : Heap} {g : Array GenState} {d : Drawn} {k : Nat} {os : OsState}
abbrev MM (w : World) : Model := model pw w
theorem wid {α : Type} {t : Sem α} {Q : α → Shared → Prop} (h : wpAny (MM w) A t Q E s) : wpAny (MM w) A t Q E s := h
theorem rInt {i : Int} {kd : Nat} {p : Pos} (H : ∀ t k', Q (.int i t) ⟨h, g, d, k', os⟩) : wpAny (MM w) A (eval (.Constant (.int i) kd p) env) Q E ⟨h, g, d, k, os⟩ := wpAny_Constant_int (H _ _)
theorem rStr {x : Str} {kd : Nat} {p : Pos} (H : ∀ t k', Q (.str x t) ⟨h, g, d, k', os⟩) : wpAny (MM w) A (eval (.Constant (.str x) kd p) env) Q E ⟨h, g, d, k, os⟩ := wpAny_Constant_str (H _ _)
theorem rAddI {a b : Int} {t u : Tok} (H : ∀ t k', Q (.int (a + b) t) ⟨h, g, d, k', os⟩) : wpAny (MM w) A (binaryOp .Add (.int a t) (.int b u)) Q E ⟨h, g, d, k, os⟩ := add_int (H _ _)
theorem rIaddI {a b : Int} {t u : Tok} (H : ∀ t k', Q (.int (a + b) t) ⟨h, g, d, k', os⟩) : wpAny (MM w) A (inplaceOp .Add (.int a t) (.int b u)) Q E ⟨h, g, d, k, os⟩ := iadd_int (H _ _)
theorem rSubI {a b : Int} {t u : Tok} (H : ∀ t k', Q (.int (a - b) t) ⟨h, g, d, k', os⟩) : wpAny (MM w) A (binaryOp .Sub (.int a t) (.int b u)) Q E ⟨h, g, d, k, os⟩ := sub_int (H _ _)
theorem rModI {a b : Int} {t u : Tok} (hb : 0 < b) (H : ∀ t k', Q (.int (a % b) t) ⟨h, g, d, k', os⟩) : wpAny (MM w) A (binaryOp .Mod (.int a t) (.int b u)) Q E ⟨h, g, d, k, os⟩ :=
  mod_int' (by omega) (by rw [Int.fmod_eq_emod_of_nonneg _ (by omega)]; exact H _ _)
theorem rDivI {a b : Int} {t u : Tok} (hb : 0 < b) (hb' : b < 1073741824) (H : ∀ t k', Q (.int (a / b) t) ⟨h, g, d, k', os⟩) : wpAny (MM w) A (binaryOp .FloorDiv (.int a t) (.int b u)) Q E ⟨h, g, d, k, os⟩ :=
  floordiv_int (by omega) (by rw [Int.fdiv_eq_ediv_of_nonneg _ (by omega)]; exact H _ _) (Or.inl (PyProof.noPylong_small (by omega)))
theorem rAddS {x y : Str} {t u : Tok} (hsz : x.length + y.length ≤ sizeLine) (H : ∀ t k', Q (.str (x ++ y) t) ⟨h, g, d, k', os⟩) : wpAny (MM w) A (binaryOp .Add (.str x t) (.str y u)) Q E ⟨h, g, d, k, os⟩ :=
  add_str (fun t' tk => H t' tk) hsz
theorem rIaddS {x y : Str} {t u : Tok} (hsz : x.length + y.length ≤ sizeLine) (H : ∀ t k', Q (.str (x ++ y) t) ⟨h, g, d, k', os⟩) : wpAny (MM w) A (inplaceOp .Add (.str x t) (.str y u)) Q E ⟨h, g, d, k, os⟩ :=
  iadd_str (fun t' tk => H t' tk) hsz
def fdOf (o : Obj) : FuncData := match o.data with | .func f => f | _ => default
theorem cwF (o : Obj) {a : Addr} {e : Expr} {rest : List Expr} (he : starEach (e :: rest) env = (false, eval e env) :: starEach rest env)
    (H : wpAny (MM w) A (spliced (backTo pos (starEach (e :: rest) env))) (fun vs s₁ => (s₁.heap.get? a = some o ∧ o.data = .func (fdOf o)) ∧ wpAny (MM w) A (call (.ref a) vs) Q E s₁) E s) :
    wpAny (MM w) A (callWith pos (.ref a) [] (backTo pos (starEach (e :: rest) env)) []) Q E s := by
  rw [he] at H ⊢
  exact Calls.callWith_function (Calls.evalArgs_plain H)
theorem cwB {id : String} {e : Expr} {rest : List Expr} (he : starEach (e :: rest) env = (false, eval e env) :: starEach rest env) (hr : (backTo pos (starEach rest env)).any (·.1) = false)
    (H : wpAny (MM w) A (spliced (backTo pos (starEach (e :: rest) env))) (fun vs s₁ => wpAny (MM w) A (call (.builtin id) vs) Q E s₁) E s) :
    wpAny (MM w) A (callWith pos (.builtin id) [] (backTo pos (starEach (e :: rest) env)) []) Q E s := by
  rw [he] at H ⊢
  refine Calls.callWith_builtin (by show (false || (backTo pos (starEach rest env)).any (·.1)) = false; rw [hr]; rfl) (Calls.evalArgs_plain H)
theorem rLenL {l : Addr} {items : Array Value} (hl : h.IsList l items) (hfit : (items.size : Int) < 2 ^ 63) (H : ∀ t k', Q (.int items.size t) ⟨h, g, d, k', os⟩) : wpAny (MM w) A (call (.builtin "len") [.ref l]) Q E ⟨h, g, d, k, os⟩ := Calls.call_len_list hl hfit (H _ _)
theorem itL {value slice : Expr} {l : Addr} {items : Array Value} {i : Int} {t : Tok} {x : Value} (hl : s.heap.IsList l items) (h0 : 0 ≤ i) (hfit : i < 2 ^ 63) (hx : items[i.toNat]? = some x) (H : Q x s)
    (hs : subscripted slice false (.ref l) (.int i t) = operate [.ref l, .int i t] (getItem (.ref l) (.int i t))) :
    wpAny (MM w) A (subscriptTail value slice (.ref l) (.int i t)) Q E s := tail_any hl.typeIs slot_list_getitem.lookup (wpAny_getItem_list hl h0 hfit hx H) hs
theorem itS {value slice : Expr} {x : Str} {u : Tok} {i : Int} {t : Tok} {c : Nat} (hr : (decide (i < -(2 ^ 63 : Int)) || decide (i ≥ 2 ^ 63)) = false) (hc : (seqIndex? i x.length).bind (x.cps[·]?) = some c)
    (H : ∀ t k', Q (.str ⟨#[c]⟩ t) ⟨h, g, d, k', os⟩) (hs : subscripted slice false (.str x u) (.int i t) = operate [.str x u, .int i t] (getItem (.str x u) (.int i t))) :
    wpAny (MM w) A (subscriptTail value slice (.str x u) (.int i t)) Q E ⟨h, g, d, k, os⟩ := tail_any (typeIs_str _ _ _) F.slot_str_getitem.lookup (getItem_str hr hc (H _ _)) hs
theorem fresh_none (h : Heap) : h.get? h.objs.size = none := by
  cases q : h.get? h.objs.size with
  | none => rfl
  | some o => exact absurd (Heap.lt_size q) (Nat.lt_irrefl _)
/-- what a new list leaves -/
def NewL (Q : Value → Shared → Prop) (vs : List Value) (s₁ : Shared) : Prop :=
  ∀ r h', s₁.heap.get? r = none → s₁.heap.objs.size ≤ r → h'.get? r = some (seqObj "list" vs.toArray 0) → (∀ b o, s₁.heap.get? b = some o → h'.get? b = some o) → Q (.ref r) { s₁ with heap := h' }
theorem NewL.mk {vs : List Value} (H : ∀ r h', h.get? r = none → h.objs.size ≤ r → h'.get? r = some (seqObj "list" vs.toArray 0) → (∀ b o, h.get? b = some o → h'.get? b = some o) → Q (.ref r) ⟨h', g, d, k, os⟩) : NewL Q vs ⟨h, g, d, k, os⟩ := H
theorem rListD {elts : List Expr} (H : wpAny (MM w) A (spliced (backTo pos (starEach elts env))) (fun vs s₁ => vs.length ≤ sizeLine ∧ NewL Q vs s₁) E s) :
    wpAny (MM w) A (eval (.List elts pos) env) Q E s := wpAny_List_spliced (wpAny_mono H (fun vs s₁ x => ⟨x.1, x.2 _ _ (fresh_none _) (Nat.le_refl _) (Heap.get?_push_size _ rfl) fun _ _ e => Heap.get?_push_of_some _ e⟩) fun _ _ e => e)
end
section
variable {w : World} {A : Around} {E : Value → Shared → Prop} {s : Shared} {name : Str} {scope : Scope} {L a : Addr} {cd : Value} {h₀ : Heap} {m : Str → Option Value}
variable {h : Heap} {g : Array GenState} {d : Drawn} {k : Nat} {os : OsState}
theorem rSt {x : Str} {v : Value} {Q : Unit → Shared → Prop} (F : Fr h₀ L h m)
    (H : ∀ h' k', Fr h₀ L h' (fun y => if y = x then some v else m y) → (∀ b o, h.get? b = some o → b ≠ L → h'.get? b = some o) → Q () ⟨h', g, d, k', os⟩)
    (hk : scope.kind = .function) (hl : (envOf name scope L a cd).kindOf x = some .local) : wpAny (MM w) A (storeName (envOf name scope L a cd) x v) Q E ⟨h, g, d, k, os⟩ :=
  wpAny_storeName_local hl F.ns (fun h' hn hs => H h' _ (F.set hn hs) fun b o e ne => (hs.2 b ne).trans e)
    (by show (scope.kind == .class || (scope.kind == .module && L != mainGlobals)) = false; rw [hk]; rfl)
theorem Fr.neL {b : Addr} {o : Obj} {h : Heap} (F : Fr h₀ L h m) (e : h₀.get? b = some o) : b ≠ L := fun q => by
  have h1 := Heap.lt_size e; have h2 := F.above; rw [q] at h1; exact absurd h1 (Nat.not_lt.mpr h2)
theorem isl {h h' : Heap} {l : Addr} {items : Array Value} (x : h.IsList l items) (k : ∀ o, h.get? l = some o → h'.get? l = some o) : h'.IsList l items := let ⟨o, ho, r⟩ := x; ⟨o, k o ho, r⟩
theorem callF' {f c : Addr} {nm : String} {dd : Stmt} {pm : Value} {args : List Value} {binds : List (Str × Value)} {Q : Value → Shared → Prop}
    (x : Ok w h) (hf : h.get? f = some { cls := .type "function", data := .func (oFd nm nm dd 3 .none pm (.ref c)) }) (hc : h.CodeRec (.ref c) nm) (hd : A.depth < recursionLimit)
    (hbind : bindArgs (oFd nm nm dd 3 .none pm (.ref c)) ⟨args, []⟩ = pure binds) (hloc : (binds.all fun x => decide ((oScope dd).names.lookup x.1 = some .local)) = true)
    (H : ∀ h₁ k₁, Fr h h.objs.size h₁ (fun x => binds.reverse.lookup x) →
      wpAny (MM w) (A.deeper (envOf nm (oScope dd) h.objs.size f (.ref c))) (execs (oBody dd) (envOf nm (oScope dd) h.objs.size f (.ref c)))
        (fun fl s' => Q (flowVal fl) s') (fun _ _ => False) ⟨h₁, g, d, k₁, os⟩)
    (hsc : ((oScope dd).isCoroutine || (oScope dd).isGenerator || (oScope dd).kind != .function || (oScope dd).names.any (fun x => x.2 == .cell)) = false) :
    wpAny (MM w) A (call (.ref f) args) Q E ⟨h, g, d, k, os⟩ := callF (s := ⟨h, g, d, k, os⟩) x hf hc hd hbind hloc (fun h₁ F => H h₁ _ F) hsc
theorem kps {h h' : Heap} {g : Array GenState} {d : Drawn} {k k' : Nat} {os : OsState} (x : ∀ b o, h.get? b = some o → h'.get? b = some o) : Keeps ⟨h, g, d, k, os⟩ ⟨h', g, d, k', os⟩ := ⟨h', k', rfl, x⟩
end
local macro_rules | `(tactic| walk_at "lk") => `(tactic| first
  | assumption
  | with_unfolding_all rfl
  | (refine Eq.trans (if_neg (by decide +kernel)) ?_; walk_at "lk"))
local macro_rules | `(tactic| walk_at "ms") => `(tactic| first
  | with_reducible refine wpAny_BinOp ?_
  | (with_reducible refine rInt ?_; intro _ _)
  | (with_reducible refine rStr ?_; intro _ _)
  | (with_reducible refine ld (by assumption) (by walk_at "lk") ?_ (by kernel_rfl!) (by kernel_rfl!) (by decide +kernel))
  | (with_reducible refine ldG (by assumption) (by kernel_rfl!) (by kernel_rfl!) (by kernel_rfl!) (by with_unfolding_all rfl) ?_ (by decide +kernel))
  | (with_reducible refine ldB (by assumption) (by kernel_rfl!) (by kernel_rfl!) (by kernel_rfl!) (by kernel_rfl!) (by kernel_rfl!) (by first | exact Boot.«sorted» | exact Boot.«len» | exact Boot.«isinstance» | exact Boot.«list» | exact Boot.«int» | exact Boot.«type» | exact Boot.«str» | exact Boot.«bool» | exact Boot.«IndexError» | exact Boot.«StopIteration») (by decide +kernel) ?_ (by decide +kernel))
  | with_reducible refine wpAny_Call_NameR ?_
  | with_reducible refine wpAny_Return_some ?_
  | with_reducible refine wpAny_If ?_
  | with_reducible refine wpAny_isTrue_Compare1 ?_
  | with_reducible refine wpAny_Compare1 ?_
  | with_reducible refine wpAny_truthy_bool ?_
  | with_reducible refine ne_int ?_
  | with_reducible refine eq_int ?_
  | with_reducible refine gt_int ?_
  | with_reducible refine lt_int ?_
  | (with_reducible refine rSubI ?_; intro _ _)
  | (with_reducible refine rAddI ?_; intro _ _)
  | (with_reducible refine rModI (by decide) ?_; intro _ _)
  | (with_reducible refine rDivI (by decide) (by decide) ?_; intro _ _)
  | with_reducible refine rListD ?_
  | with_reducible refine Subscript_ ?_
  | (with_reducible refine cwB (by with_unfolding_all rfl) (by with_unfolding_all rfl) ?_)
  | with_reducible refine wpAny_items_nil ?_
  | (with_reducible refine wpAny_items_cons ?_ (by with_unfolding_all rfl))
  | (with_reducible refine wpAny_Assign_Name ?_ (by kernel_rfl!))
  | with_reducible refine wpAny_execs_cons ?_)
section
variable {w : World} {A : Around} {h : Heap} {g : Array GenState} {d : Drawn} {k : Nat} {os : OsState} {E : Value → Shared → Prop}
def keptZ (b : Int) : Int := if b / 2 % 2 = b % 2 then b / 4 else b / 2 % 2
theorem kept_spec {b : Int} {t : Tok} (hd : A.depth < recursionLimit) (x : Ok w h) (hb0 : 0 ≤ b) (hb8 : b < 8) :
    wpAny (MM w) A (call (.ref 825) [.int b t]) (fun v s' => (∃ u, v = .int (keptZ b) u) ∧ Keeps ⟨h, g, d, k, os⟩ s') E ⟨h, g, d, k, os⟩ := by
  refine callF' (nm := "_law_kept") (dd := oSt pw 40) (pm := .str "law_oc0270_01" 1299) (c := 824) (binds := [("bits", .int b t)]) x (a825 x) (c824 x) hd (by kernel_rfl!) (by kernel_rfl!) (fun h₁ k₁ F => ?_) (by kernel_rfl!)
  refine wpAny_execs_cons ?_
  repeat walk_at "ms"
  refine split_bool (fun hc => ?_) (fun hc => ?_)
  · repeat walk_at "ms"
    rw [bne_iff_ne] at hc
    exact ⟨⟨_, congrArg (Value.int · _) (by unfold keptZ; rw [if_neg hc])⟩, kps F.keep⟩
  · refine wpAny_execs_nil ?_
    repeat walk_at "ms"
    rw [bne_eq_false_iff_eq] at hc
    exact ⟨⟨_, congrArg (Value.int · _) (by unfold keptZ; rw [if_pos hc])⟩, kps F.keep⟩
end
section
variable {w : World} {A : Around} {h : Heap} {g : Array GenState} {d : Drawn} {k : Nat} {os : OsState} {E : Value → Shared → Prop}
theorem sorted3 {x y z : Int} {l : List Int} (hp : l.Perm [x, y, z]) : ∃ a b c, l = [a, b, c] := by
  have := hp.length_eq
  match l, this with
  | [a, b, c], _ => exact ⟨a, b, c, rfl⟩
theorem rSortI {l : Addr} {vs : List Value} {ns : List Int} {Q : Value → Shared → Prop} (hl : h.IsList l vs.toArray) (hI : IntsAre vs ns) (h64 : vs.length < 64)
    (H : ∀ (h' : Heap) (r : Addr) (out : List Value) (ns' : List Int), h.get? r = none → h.objs.size ≤ r → h'.IsList r out.toArray → (∀ b o, h.get? b = some o → h'.get? b = some o) → IntsAre out ns' → ns'.Perm ns → ns'.Pairwise (· ≤ ·) → Q (.ref r) ⟨h', g, d, k, os⟩) :
    wpAny (MM w) A (call (.builtin "sorted") [.ref l]) Q E ⟨h, g, d, k, os⟩ := by
  refine sorted_ints (s := ⟨h, g, d, k, os⟩) hl hI h64 fun out ns' a1 a2 a3 => ?_
  obtain ⟨e, he⟩ := sortedAll_at h vs out
  refine H _ _ out.toList ns' ?_ (Nat.le_succ _) ⟨_, he, rfl, e, by simp⟩ (fun _ _ => sortedAll_old) a1 a2 a3
  cases q : h.get? (h.objs.size + 1) with
  | none => rfl
  | some o => exact absurd (Heap.lt_size q) (Nat.not_lt.mpr (Nat.le_succ _))
theorem rSortS {l : Addr} {vs : List Value} {ss : List Str} {Q : Value → Shared → Prop} (hl : h.IsList l vs.toArray) (hI : StrsAre vs ss) (h64 : vs.length < 64)
    (H : ∀ (h' : Heap) (r : Addr) (out : List Value) (ss' : List Str), h.get? r = none → h.objs.size ≤ r → h'.IsList r out.toArray → (∀ b o, h.get? b = some o → h'.get? b = some o) → StrsAre out ss' → ss'.Perm ss → sortedS ss' = true → Q (.ref r) ⟨h', g, d, k, os⟩) :
    wpAny (MM w) A (call (.builtin "sorted") [.ref l]) Q E ⟨h, g, d, k, os⟩ := by
  refine sorted_strs (s := ⟨h, g, d, k, os⟩) hl hI h64 fun out ss' a1 a2 a3 => ?_
  obtain ⟨e, he⟩ := sortedAll_at h vs out
  refine H _ _ out.toList ss' ?_ (Nat.le_succ _) ⟨_, he, rfl, e, by simp⟩ (fun _ _ => sortedAll_old) a1 a2 a3
  cases q : h.get? (h.objs.size + 1) with
  | none => rfl
  | some o => exact absurd (Heap.lt_size q) (Nat.not_lt.mpr (Nat.le_succ _))
theorem med_val {a b c x y z : Int} (hp : [a, b, c].Perm [x, y, z]) (h1 : a ≤ b) (h2 : b ≤ c) (hx : x = 0 ∨ x = 1) (hy : y = 0 ∨ y = 1) (hz : z = 0 ∨ z = 1) : b = if x + y + z ≥ 2 then 1 else 0 := by
  have m : ∀ v, v ∈ [a, b, c] → v = 0 ∨ v = 1 := fun v hv => by
    have := hp.mem_iff.mp hv
    simp only [List.mem_cons, List.not_mem_nil, or_false] at this
    rcases this with rfl | rfl | rfl <;> assumption
  have ha := m a (by simp)
  have hb := m b (by simp)
  have hc := m c (by simp)
  have e := hp.count_eq 1
  clear m hp
  rcases hx with rfl | rfl <;> rcases hy with rfl | rfl <;> rcases hz with rfl | rfl <;> rcases ha with rfl | rfl <;> rcases hb with rfl | rfl <;> rcases hc with rfl | rfl <;> revert e h1 h2 <;> decide
theorem median_spec {l : Addr} {vs : List Value} {x y z : Int} (hd : A.depth < recursionLimit) (ok : Ok w h) (hl : h.IsList l vs.toArray) (hi : IntsAre vs [x, y, z]) :
    wpAny (MM w) A (call (.ref 64) [.ref l]) (fun v s' => (∃ u a b c, v = .int b u ∧ [a, b, c].Perm [x, y, z] ∧ a ≤ b ∧ b ≤ c) ∧ Keeps ⟨h, g, d, k, os⟩ s') E ⟨h, g, d, k, os⟩ := by
  refine callF' (nm := "median_low") (dd := oSt pw 5) (pm := .str "cpy313.statistics" 331) (c := 63) (binds := [("data", .ref l)]) ok (a64 ok) (c63 ok) hd (by kernel_rfl!) (by kernel_rfl!) (fun h₁ k₁ F => ?_) (by kernel_rfl!)
  have ok1 := ok.fr F
  have hlen := hi.length
  have hl1 : h₁.IsList l vs.toArray := isl hl fun _ => F.keep _ _
  refine wpAny_execs_cons ?_
  repeat walk_at "ms"
  refine rSortI hl1 hi (by simp at hlen; omega) fun h₂ r out ns' hr hr2 hl2 k2 hi' hp hs => ?_
  have F2 := F.kept k2
  have hrL : r ≠ h.objs.size := fun q => by rw [q] at hr2; exact absurd hr2 (Nat.not_le.mpr F.ns.lt)
  obtain ⟨a, b, c, rfl⟩ := sorted3 hp
  refine rSt F2 (fun h₃ k₃ F3 kk3 => ?_) (by kernel_rfl!) (by kernel_rfl!)
  have ok3 := ok.fr F3
  have hl3 : h₃.IsList r out.toArray := isl hl2 fun o e => kk3 _ _ e hrL
  have hlen' := hi'.length
  clear F F2 ok1
  repeat walk_at "ms"
  refine rLenL hl3 (by simp at hlen' ⊢; omega) (fun _ _ => ?_)
  rw [show ((out.toArray.size : Nat) : Int) = 3 by simp at hlen'; simp [hlen']]
  refine rSt F3 (fun h₄ k₄ F4 kk4 => ?_) (by kernel_rfl!) (by kernel_rfl!)
  have ok4 := ok.fr F4
  have hl4 : h₄.IsList r out.toArray := isl hl3 fun o e => kk4 _ _ e hrL
  clear F3 ok3 kk4 kk3 hl3 hl2
  repeat walk_at "ms"
  refine split_bool (fun hc => absurd hc (by decide)) (fun _ => ?_)
  refine wpAny_execs_nil ?_
  repeat walk_at "ms"
  refine split_bool (fun _ => ?_) (fun hc => absurd hc (by decide))
  repeat walk_at "ms"
  cases hi' with | cons _ t1 hi' => cases hi' with | cons _ t2 hi' => cases hi' with | cons _ t3 hi' =>
  cases hi'
  refine itL hl4 (by decide) (by decide) (by simp; rfl) ?_ (by with_unfolding_all rfl)
  refine ⟨⟨_, a, b, c, rfl, hp, ?_⟩, kps F4.keep⟩
  simp only [List.pairwise_cons, List.mem_cons] at hs
  exact ⟨hs.1 b (.inl rfl), hs.2.1 c (.inl rfl)⟩
def votedZ (b : Int) : Int := if b / 2 % 2 + b / 4 + (1 - b % 2) ≥ 2 then 1 else 0
theorem voted_spec {b : Int} {t : Tok} (hd : A.depth + 1 < recursionLimit) (x : Ok w h) (hb0 : 0 ≤ b) (hb8 : b < 8) :
    wpAny (MM w) A (call (.ref 832) [.int b t]) (fun v s' => (∃ u, v = .int (votedZ b) u) ∧ Keeps ⟨h, g, d, k, os⟩ s') E ⟨h, g, d, k, os⟩ := by
  refine callF' (nm := "_law_voted") (dd := oSt pw 41) (pm := .str "law_oc0270_01" 1299) (c := 831) (binds := [("bits", .int b t)]) x (a832 x) (c831 x) (by omega) (by kernel_rfl!) (by kernel_rfl!) (fun h₁ k₁ F => ?_) (by kernel_rfl!)
  have ok1 := x.fr F
  refine wpAny_execs_cons ?_
  repeat walk_at "ms"
  refine cwF (ob64 pw w.params) (by with_unfolding_all rfl) ?_
  repeat walk_at "ms"
  refine ⟨by show 3 ≤ _; decide, NewL.mk fun r h₂ hr hr2 hl2 k2 => ?_⟩
  have F2 := F.kept k2
  have ok2 := x.fr F2
  repeat walk_at "ms"
  refine ⟨⟨a64 ok2, rfl⟩, ?_⟩
  refine wpAny_mono (median_spec (by show A.depth + 1 < _; omega) ok2 ⟨_, hl2, rfl, 0, rfl⟩ (.cons _ _ (.cons _ _ (.cons _ _ .nil)))) (fun v s' hv => ?_) (fun _ _ e => e)
  obtain ⟨⟨u, a, b', c, rfl, hp, h1, h2⟩, h', k', rfl, hk⟩ := hv
  refine ⟨⟨u, congrArg (Value.int · _) ?_⟩, kps fun b o e => hk b o (F2.keep b o e)⟩
  unfold votedZ
  exact med_val hp h1 h2 (by omega) (by omega) (by omega)
end
section
variable {w : World} {A : Around} {h : Heap} {g : Array GenState} {d : Drawn} {k : Nat} {os : OsState} {E : Value → Shared → Prop}
def words : List Str := ["", "a", "'", " a", "aa", "'a", " '", "a'", "''"]
def word (n : Int) : Str := words.getD n.toNat ""
def signs : Str := " a'"
theorem word_turn : ∀ n : Nat, n < 9 → 0 < n → ∃ c, (seqIndex? ((n : Int) % 3) signs.length).bind (signs.cps[·]?) = some c ∧ (⟨#[c]⟩ : Str) ++ word ((n : Int) / 3) = word n := by
  intro n hn h0
  have : n = 1 ∨ n = 2 ∨ n = 3 ∨ n = 4 ∨ n = 5 ∨ n = 6 ∨ n = 7 ∨ n = 8 := by omega
  rcases this with rfl | rfl | rfl | rfl | rfl | rfl | rfl | rfl
  · exact ⟨97, by decide +kernel, by decide +kernel⟩
  · exact ⟨39, by decide +kernel, by decide +kernel⟩
  · exact ⟨32, by decide +kernel, by decide +kernel⟩
  · exact ⟨97, by decide +kernel, by decide +kernel⟩
  · exact ⟨39, by decide +kernel, by decide +kernel⟩
  · exact ⟨32, by decide +kernel, by decide +kernel⟩
  · exact ⟨97, by decide +kernel, by decide +kernel⟩
  · exact ⟨39, by decide +kernel, by decide +kernel⟩
theorem word_zero : word 0 = "" := by decide +kernel
theorem word_len (n : Int) : (word n).length ≤ 2 := by
  unfold word
  have : ∀ i : Fin 10, (words.getD i "").length ≤ 2 := by decide +kernel
  by_cases hn : n.toNat < 10
  · exact this ⟨_, hn⟩
  · rw [show words.getD n.toNat "" = "" by rw [List.getD_eq_getElem?_getD, List.getElem?_eq_none (by show 9 ≤ _; omega)]; rfl]; decide +kernel
theorem word_spec {n : Int} {t : Tok} (hd : A.depth < recursionLimit) (x : Ok w h) (hn0 : 0 ≤ n) (hn9 : n < 9) :
    wpAny (MM w) A (call (.ref 793) [.int n t]) (fun v s' => (∃ u, v = .str (word n) u) ∧ Keeps ⟨h, g, d, k, os⟩ s') E ⟨h, g, d, k, os⟩ := by
  refine callF' (nm := "_law_word") (dd := oSt pw 34) (pm := .str "law_oc0270_01" 1299) (c := 792) (binds := [("n", .int n t)]) x (a793 x) (c792 x) hd (by kernel_rfl!) (by kernel_rfl!) (fun h₁ k₁ F => ?_) (by kernel_rfl!)
  refine wpAny_execs_cons ?_
  repeat walk_at "ms"
  refine rSt F (fun h₂ k₂ F2 kk2 => ?_) (by kernel_rfl!) (by kernel_rfl!)
  clear F
  repeat walk_at "ms"
  refine wpAny_While ?_
  refine codeAny_whileLoop (fun j s' => ∃ h' k' m' wd t1 i t2, s' = ⟨h', g, d, k', os⟩ ∧ Fr h h.objs.size h' m' ∧ m' "word" = some (.str wd t1) ∧ m' "n" = some (.int i t2) ∧ 0 ≤ i ∧ i < 9 ∧ i.toNat = j ∧ wd ++ word i = word n)
    ?_ n.toNat ⟨h₂, k₂, _, _, _, n, t, rfl, F2, by with_unfolding_all rfl, by with_unfolding_all rfl, hn0, hn9, rfl, Str.empty_append _⟩
  rintro j s' ⟨h', k', m', wd, t1, i, t2, rfl, F', hw, hi, hi0, hi9, rfl, heq⟩
  clear F2
  repeat walk_at "ms"
  refine split_bool (fun hc => ?_) (fun hc => ?_)
  · have hc := of_decide_eq_true hc
    obtain ⟨c, hc1, hc2⟩ := word_turn i.toNat (by omega) (by omega)
    rw [Int.toNat_of_nonneg hi0] at hc1 hc2
    repeat walk_at "ms"
    refine itS (by simp; omega) hc1 (fun _ _ => ?_) (by with_unfolding_all rfl)
    have hwl := congrArg Str.length heq
    rw [Str.length_append] at hwl
    have hwn := word_len n
    refine rAddS (by rw [sizeLine_eq]; show _ + 1 ≤ _; omega) (fun _ _ => ?_)
    refine rSt F' (fun h₃ k₃ F3 kk3 => ?_) (by kernel_rfl!) (by kernel_rfl!)
    clear F'
    repeat walk_at "ms"
    refine rSt F3 (fun h₄ k₄ F4 kk4 => ?_) (by kernel_rfl!) (by kernel_rfl!)
    refine wpAny_execs_nil ?_
    refine ⟨(i / 3).toNat, by omega, h₄, k₄, _, _, _, i / 3, _, rfl, F4, by walk_at "lk", by walk_at "lk", by omega, by omega, rfl, ?_⟩
    rw [Str.append_assoc, hc2, heq]
  · have hc := of_decide_eq_false hc
    have h0 : i = 0 := by omega
    subst h0
    refine wpAny_execs_nil ?_
    repeat walk_at "ms"
    rw [word_zero] at heq
    refine ⟨⟨_, congrArg (Value.str · _) ?_⟩, kps F'.keep⟩
    rw [← heq]; exact (Str.append_empty _).symm
end
section
variable {w : World} {A : Around} {E : Value → Shared → Prop} {s : Shared} {env : Env} {pos : Pos} {Q : Value → Shared → Prop}
variable {h : Heap} {g : Array GenState} {d : Drawn} {k : Nat} {os : OsState}
theorem ldN {n : Str} {p : Pos} {v : Value} {m : Str → Option Value} (ns : s.heap.Ns env.locals m) (hv : m n = some v) (H : Q v s) (hk : env.scope.kind = .function) (hl : env.kindOf n = some .local) (hd : (n == ("__debug__" : Str)) = false) :
    wpAny (MM w) A (eval (.Name n p) env) Q E s := wpAny_Name (wpAny_loadName_local hk hl ns hv H) hd
theorem ldCe {n : Str} {p : Pos} {v : Value} {c : Addr} (hv : s.heap.IsCell c (some v)) (hc : env.cells.lookup n = some c) (H : Q v s) (hk : env.scope.kind = .function) (hl : env.kindOf n = some .cell) (hd : (n == ("__debug__" : Str)) = false) :
    wpAny (MM w) A (eval (.Name n p) env) Q E s := wpAny_Name (wpAny_loadName_cell hk hl hc hv H) hd

def strTest (p : Str → Bool) : Value → Bool
  | .str y _ => p y
  | _ => false
theorem paired_strs (p : Str → Bool) (f : Str → Str) : ∀ {l : List Value} {ss : List Str} {ys : List Value}, StrsAre l ss →
    Paired (fun v y => ∃ a t u, v = Value.str a t ∧ y = Value.str (f a) u) (l.filter (strTest p)) ys → StrsAre ys ((ss.filter p).map f)
  | [], [], ys, .nil, h => by cases h; exact .nil
  | _, _, ys, .cons (vs := l) (ys := ss) a t hS, h => by
    cases hp : p a with
    | false =>
      rw [List.filter_cons_of_neg (by simp [strTest, hp])] at h
      rw [List.filter_cons_of_neg (by simp [hp])]
      exact paired_strs p f hS h
    | true =>
      rw [List.filter_cons_of_pos (by simp [strTest, hp])] at h
      rw [List.filter_cons_of_pos hp, List.map_cons]
      cases h with
      | cons hF ht =>
        obtain ⟨a', t', u, e, rfl⟩ := hF
        cases e
        exact .cons _ _ (paired_strs p f hS ht)

/-- what is asked of a comprehension's scope -/
def scopeOk (scope : Scope) (x : Str) : Bool := scope.names.all (fun y => y.2 != .cell) && scope.kind == .function && scope.names.all (fun y => y.2 != .local || scope.names.lookup y.1 == some .local) && scope.names.lookup x == some .local
theorem scopeOk_spec {scope : Scope} {x : Str} (e : scopeOk scope x = true) : (∀ y ∈ scope.names, y.2 ≠ .cell) ∧ scope.kind = .function ∧ (∀ y ∈ scope.names, y.2 = .local → scope.names.lookup y.1 = some .local) ∧ scope.names.lookup x = some .local := by
  simp only [scopeOk, Bool.and_eq_true, List.all_eq_true, beq_iff_eq, bne_iff_ne, Bool.or_eq_true] at e
  obtain ⟨⟨⟨a, b⟩, c⟩, dd⟩ := e
  exact ⟨a, b, fun y hy q => (c y hy).resolve_left fun z => z q, dd⟩

theorem rCompS {elt iter : Expr} {x : Str} {px : Pos} {ifs : List Expr} {scope : Scope} {cl : List (Str × Addr)} {ax : Addr} {vs : List Value} {ss : List Str} (p : Str → Bool) (f : Str → Str)
    (hh : A.handled = none) (hsc : scopeOk scope x = true) (hclos : closureFor scope env = pure cl)
    (hiter : ∀ Q E, Q (.ref ax) ⟨h, g, d, k, os⟩ → wpAny (MM w) A (eval iter env) Q E ⟨h, g, d, k, os⟩)
    (hl : h.IsList ax vs.toArray) (hS : StrsAre vs ss) (hn : vs.length ≤ sizeLine)
    (Ht : ∀ C y t h' g' d' k' os' m E', y ∈ ss → h.objs.size ≤ C → h'.Ns C m → m x = some (.str y t) → (∀ b o, h.get? b = some o → h'.get? b = some o) →
      wpAny (MM w) A (forIn ifs true fun c r => if r = true then do let ok ← isTrue c (compEnvC scope cl C env) (eval c (compEnvC scope cl C env)); pure (ForInStep.yield ok) else pure (ForInStep.yield r))
        (fun ok s₄ => ok = p y ∧ Keeps ⟨h', g', d', k', os'⟩ s₄) E' ⟨h', g', d', k', os'⟩)
    (He : ∀ C y t h' g' d' k' os' m E', y ∈ ss → p y = true → h.objs.size ≤ C → h'.Ns C m → m x = some (.str y t) → (∀ b o, h.get? b = some o → h'.get? b = some o) →
      wpAny (MM w) A (eval elt (compEnvC scope cl C env)) (fun v s₄ => (∃ u, v = .str (f y) u) ∧ Keeps ⟨h', g', d', k', os'⟩ s₄) E' ⟨h', g', d', k', os'⟩)
    (HQ : ∀ D h' k' ys, h.get? D = none → h'.PlainList D ys.toArray → StrsAre ys ((ss.filter p).map f) → (∀ b o, h.get? b = some o → h'.get? b = some o) → Q (.ref D) ⟨h', g, d, k', os⟩)
    (hs : ∀ x, foldedSetIterable iter env x = pure x) :
    wpAny (MM w) A (eval (.ListComp elt [⟨.Name x px, iter, ifs, 0⟩] scope pos) env) Q E ⟨h, g, d, k, os⟩ := by
  obtain ⟨c1, c2, c3, c4⟩ := scopeOk_spec hsc
  refine wpAny_ListComp_free (strTest p) (fun v y => ∃ a t u, v = Value.str a t ∧ y = Value.str (f a) u) hclos c1 c2 c3 c4 (hiter _ _ ?_) hs
  refine wpAny_pyIter_list hl ?_
  have hax : ax < h.objs.size := by obtain ⟨_, e, _⟩ := hl; exact Heap.lt_size e
  have notI : ∀ b, b < h.objs.size → b ∉ [h.objs.size] := fun b hb hm => by
    rcases List.mem_cons.mp hm with e | hm
    · exact Nat.lt_irrefl _ (e ▸ hb)
    · cases hm
  have keepI : ∀ (s₃ : Shared), (∀ b o, b ∉ [h.objs.size] → (h.push { cls := .type "list_iterator", data := .fields #[.ref ax, .int 0 0] }).get? b = some o → s₃.heap.get? b = some o) →
      ∀ b o, h.get? b = some o → s₃.heap.get? b = some o := fun s₃ hold b o e => hold b o (notI b (Heap.lt_size e)) (Heap.get?_push_of_some _ e)
  refine ⟨h.objs.size, [h.objs.size, ax], [h.objs.size], vs.toArray.size, (fun i v => vs.toArray[i]? = some v), _, rfl, Walks.list hh h.objs.size ax (Nat.ne_of_lt hax) vs.toArray, by simpa using hn,
    ⟨⟨_, Heap.get?_push_size _ rfl, rfl, rfl⟩, hl.push _⟩, ?_, ⟨?_, ?_⟩, ?_⟩
  · intro b hb
    show b < (h.push _).objs.size
    rw [Heap.size_push]
    rcases List.mem_cons.mp hb with rfl | hb
    · exact Nat.lt_succ_self _
    · rcases List.mem_cons.mp hb with rfl | hb
      · exact Nat.lt_succ_of_lt hax
      · cases hb
  · intro C i v s₃ m₃ E' hC hP hn hm hold _
    obtain ⟨y, t, rfl, hy⟩ := hS.item i v (by simpa using hP)
    obtain ⟨h', g', d', k', os'⟩ := s₃
    exact Ht C y t h' g' d' k' os' m₃ E' (List.mem_of_getElem? hy) (Nat.le_trans (by show _ ≤ (h.push _).objs.size; rw [Heap.size_push]; exact Nat.le_succ _) hC) hn hm (keepI _ hold)
  · intro C i v s₃ m₃ E' hC hP hp hn hm hold _
    obtain ⟨y, t, rfl, hy⟩ := hS.item i v (by simpa using hP)
    obtain ⟨h', g', d', k', os'⟩ := s₃
    exact wpAny_mono (He C y t h' g' d' k' os' m₃ E' (List.mem_of_getElem? hy) hp (Nat.le_trans (by show _ ≤ (h.push _).objs.size; rw [Heap.size_push]; exact Nat.le_succ _) hC) hn hm (keepI _ hold))
      (fun v s₄ hv => ⟨let ⟨u, e⟩ := hv.1; ⟨y, t, u, rfl, e⟩, hv.2⟩) fun _ _ e => e
  · intro D h' tk ys vs' hnew hlD hplD hlen hP hF hk
    rw [list_of_places hlen hP] at hF
    have hF' : Paired (fun v y => ∃ a t u, v = Value.str a t ∧ y = Value.str (f a) u) (vs.filter (strTest p)) ys.toList := by simpa using hF
    refine HQ D h' tk ys.toList ?_ (by simpa using hplD) (paired_strs p f hS hF') (fun b o e => hk b o (notI b (Heap.lt_size e)) (Heap.get?_push_of_some _ e))
    cases e : h.get? D with
    | none => rfl
    | some o' => rw [Heap.get?_push_of_some _ e] at hnew; cases hnew
end
section
variable {w : World} {A : Around} {E : Value → Shared → Prop} {s : Shared} {env : Env} {pos : Pos} {Q : Value → Shared → Prop}
variable {h : Heap} {g : Array GenState} {d : Drawn} {k : Nat} {os : OsState}
theorem keys_strs : ∀ (kvs : List (Str × Value)) (vs : List Value), vs.length = kvs.length → (∀ (j : Nat) (v : Value), vs[j]? = some v → ∃ (a : Str) (x : Value), kvs[j]? = some (a, x) ∧ (strKind pw w).is a v = true) → StrsAre vs (kvs.map (·.1))
  | [], [], _, _ => .nil
  | (a, x) :: kvs, v :: vs, hl, hP => by
    obtain ⟨a', x', e, hk⟩ := hP 0 v rfl
    cases e
    obtain ⟨t, rfl⟩ := Value.isStrOf_shape hk
    exact .cons _ _ (keys_strs kvs vs (by simpa using hl) fun j v hv => hP (j + 1) v (by simpa using hv))
theorem rCompD {elt iter : Expr} {x : Str} {px : Pos} {ifs : List Expr} {scope : Scope} {cl : List (Str × Addr)} {ax : Addr} {kvs : List (Str × Value)} {ep : Nat} (p : Str → Bool) (f : Str → Str)
    (hh : A.handled = none) (hsc : scopeOk scope x = true) (hclos : closureFor scope env = pure cl)
    (hiter : ∀ Q E, Q (.ref ax) ⟨h, g, d, k, os⟩ → wpAny (MM w) A (eval iter env) Q E ⟨h, g, d, k, os⟩)
    (hl : h.DictAt (strKind pw w) ax kvs ep) (hm : (ax == sysModules) = false) (hn : kvs.length ≤ sizeLine)
    (Ht : ∀ C y t h' g' d' k' os' m E', y ∈ kvs.map (·.1) → h.objs.size ≤ C → h'.Ns C m → m x = some (.str y t) → (∀ b o, h.get? b = some o → h'.get? b = some o) →
      wpAny (MM w) A (forIn ifs true fun c r => if r = true then do let ok ← isTrue c (compEnvC scope cl C env) (eval c (compEnvC scope cl C env)); pure (ForInStep.yield ok) else pure (ForInStep.yield r))
        (fun ok s₄ => ok = p y ∧ Keeps ⟨h', g', d', k', os'⟩ s₄) E' ⟨h', g', d', k', os'⟩)
    (He : ∀ C y t h' g' d' k' os' m E', y ∈ kvs.map (·.1) → p y = true → h.objs.size ≤ C → h'.Ns C m → m x = some (.str y t) → (∀ b o, h.get? b = some o → h'.get? b = some o) →
      wpAny (MM w) A (eval elt (compEnvC scope cl C env)) (fun v s₄ => (∃ u, v = .str (f y) u) ∧ Keeps ⟨h', g', d', k', os'⟩ s₄) E' ⟨h', g', d', k', os'⟩)
    (HQ : ∀ D h' k' ys, h.get? D = none → h'.PlainList D ys.toArray → StrsAre ys (((kvs.map (·.1)).filter p).map f) → (∀ b o, h.get? b = some o → h'.get? b = some o) → Q (.ref D) ⟨h', g, d, k', os⟩)
    (hs : ∀ x, foldedSetIterable iter env x = pure x) :
    wpAny (MM w) A (eval (.ListComp elt [⟨.Name x px, iter, ifs, 0⟩] scope pos) env) Q E ⟨h, g, d, k, os⟩ := by
  obtain ⟨c1, c2, c3, c4⟩ := scopeOk_spec hsc
  refine wpAny_ListComp_free (strTest p) (fun v y => ∃ a t u, v = Value.str a t ∧ y = Value.str (f a) u) hclos c1 c2 c3 c4 (hiter _ _ ?_) hs
  refine wpAny_pyIter_dict hm hl ?_
  have hax : ax < h.objs.size := by obtain ⟨_, _, e, _⟩ := hl; exact Heap.lt_size e
  have notI : ∀ b, b < h.objs.size → b ∉ [h.objs.size] := fun b hb hm => by
    rcases List.mem_cons.mp hm with e | hm
    · exact Nat.lt_irrefl _ (e ▸ hb)
    · cases hm
  have keepI : ∀ (s₃ : Shared), (∀ b o, b ∉ [h.objs.size] → (h.push { cls := .type "dict_keyiterator", data := .fields #[.ref ax, .int 0 0, .int kvs.length 0, .int ep 0] }).get? b = some o → s₃.heap.get? b = some o) →
      ∀ b o, h.get? b = some o → s₃.heap.get? b = some o := fun s₃ hold b o e => hold b o (notI b (Heap.lt_size e)) (Heap.get?_push_of_some _ e)
  refine ⟨h.objs.size, [h.objs.size, ax], [h.objs.size], kvs.length, _, _, rfl, Walks.dictKeys hh h.objs.size ax (Nat.ne_of_lt hax) kvs ep, hn,
    ⟨⟨_, Heap.get?_push_size _ rfl, rfl, rfl⟩, hl.at' fun o e => Heap.get?_push_of_some _ e⟩, ?_, ⟨?_, ?_⟩, ?_⟩
  · intro b hb
    show b < (h.push _).objs.size
    rw [Heap.size_push]
    rcases List.mem_cons.mp hb with rfl | hb
    · exact Nat.lt_succ_self _
    · rcases List.mem_cons.mp hb with rfl | hb
      · exact Nat.lt_succ_of_lt hax
      · cases hb
  · intro C i v s₃ m₃ E' hC hP hn hm hold _
    obtain ⟨y, xv, hy, hk⟩ := hP
    obtain ⟨t, rfl⟩ := Value.isStrOf_shape hk
    obtain ⟨h', g', d', k', os'⟩ := s₃
    exact Ht C y t h' g' d' k' os' m₃ E' (List.mem_map_of_mem (List.mem_of_getElem? hy)) (Nat.le_trans (by show _ ≤ (h.push _).objs.size; rw [Heap.size_push]; exact Nat.le_succ _) hC) hn hm (keepI _ hold)
  · intro C i v s₃ m₃ E' hC hP hp hn hm hold _
    obtain ⟨y, xv, hy, hk⟩ := hP
    obtain ⟨t, rfl⟩ := Value.isStrOf_shape hk
    obtain ⟨h', g', d', k', os'⟩ := s₃
    exact wpAny_mono (He C y t h' g' d' k' os' m₃ E' (List.mem_map_of_mem (List.mem_of_getElem? hy)) hp (Nat.le_trans (by show _ ≤ (h.push _).objs.size; rw [Heap.size_push]; exact Nat.le_succ _) hC) hn hm (keepI _ hold))
      (fun v s₄ hv => ⟨let ⟨u, e⟩ := hv.1; ⟨y, t, u, rfl, e⟩, hv.2⟩) fun _ _ e => e
  · intro D h' tk ys vs' hnew hlD hplD hlen hP hF hk
    refine HQ D h' tk ys.toList ?_ (by simpa using hplD) (paired_strs p f (keys_strs kvs vs' hlen hP) hF) (fun b o e => hk b o (notI b (Heap.lt_size e)) (Heap.get?_push_of_some _ e))
    cases e : h.get? D with
    | none => rfl
    | some o' => rw [Heap.get?_push_of_some _ e] at hnew; cases hnew
end
section
variable {w : World} {A : Around} {E : Value → Shared → Prop} {h : Heap} {g : Array GenState} {d : Drawn} {k : Nat} {os : OsState}
/-- a call of a def of the text some of whose names are cells -/
theorem callC {f c : Addr} {nm : String} {dd : Stmt} {pm : Value} {args : List Value} {binds : List (Str × Value)} {Q : Value → Shared → Prop}
    (x : Ok w h) (hf : h.get? f = some { cls := .type "function", data := .func (oFd nm nm dd 3 .none pm (.ref c)) }) (hc : h.CodeRec (.ref c) nm) (hd : A.depth < recursionLimit)
    (hbind : bindArgs (oFd nm nm dd 3 .none pm (.ref c)) ⟨args, []⟩ = pure binds)
    (hkind : ∀ x ∈ binds, (oScope dd).names.lookup x.1 = some .local ∨ ((oScope dd).names.lookup x.1 = some .cell ∧ ((cellsFrom (h.objs.size + 1) (oScope dd).names []).lookup x.1).isSome = true))
    (H : ∀ h₁ k₁, Fr h h.objs.size h₁ (bindL (envOfC nm (oScope dd) h.objs.size f (.ref c)).kindOf binds fun _ => none) → Cl h.objs.size (cellsFrom (h.objs.size + 1) (oScope dd).names []) h₁ (bindC (envOfC nm (oScope dd) h.objs.size f (.ref c)).kindOf binds fun _ => none) →
      wpAny (MM w) (A.deeper (envOfC nm (oScope dd) h.objs.size f (.ref c))) (execs (oBody dd) (envOfC nm (oScope dd) h.objs.size f (.ref c)))
        (fun fl s' => Q (flowVal fl) s') (fun _ _ => False) ⟨h₁, g, d, k₁, os⟩)
    (hsc : ((oScope dd).isCoroutine || (oScope dd).isGenerator || (oScope dd).kind != .function) = false) :
    wpAny (MM w) A (call (.ref f) args) Q E ⟨h, g, d, k, os⟩ := by
  simp only [Bool.or_eq_false_iff] at hsc
  obtain ⟨⟨c1, c2⟩, c3⟩ := hsc
  have hk : (oScope dd).kind = .function := by
    revert c3; cases (oScope dd).kind <;> simp
  refine wpAny_call (call_cells_ret (s := ⟨h, g, d, k, os⟩) (name := nm) (params := oArgs dd) (body := oBody dd) (scope := oScope dd) (pm := pm) (cd := .ref c) (doc := .none) hd hf rfl x.lim hc hbind hkind (fun h₁ tk F X => ?_) c1 c2 hk)
  exact wpAny_mono (H h₁ tk F X) (fun fl s' q => by cases fl <;> exact q) fun _ _ q => q
end
/-- a list of strs -/
def SL (h : Heap) (r : Addr) (ss : List Str) : Prop := ∃ vs, h.IsList r vs.toArray ∧ StrsAre vs ss
theorem SL.keep {h h' : Heap} {r : Addr} {ss : List Str} (x : SL h r ss) (hk : ∀ b o, h.get? b = some o → h'.get? b = some o) : SL h' r ss :=
  let ⟨vs, a, b⟩ := x; ⟨vs, isl a fun o => hk r o, b⟩
/-- the table: a dict whose keys are words and whose values are small numbers -/
structure Tab (w : World) (h : Heap) (ax : Addr) (ks : List Str) (b : Str → Int) : Prop where
  at' : ∃ kvs ep, h.DictAt (strKind pw w) ax kvs ep ∧ kvs.map (·.1) = ks ∧ ∀ x ∈ kvs, ∃ t, x.2 = .int (b x.1) t
  rng : ∀ y ∈ ks, 0 ≤ b y ∧ b y < 8
  wd : ∀ y ∈ ks, y ∈ words
  nm : (ax == sysModules) = false
theorem Tab.keep {w : World} {h h' : Heap} {ax : Addr} {ks : List Str} {b : Str → Int} (x : Tab w h ax ks b) (hk : ∀ b o, h.get? b = some o → h'.get? b = some o) : Tab w h' ax ks b :=
  ⟨let ⟨kvs, ep, a, r⟩ := x.at'; ⟨kvs, ep, a.keep hk, r⟩, x.rng, x.wd, x.nm⟩
theorem Tab.nodup {w : World} {h : Heap} {ax : Addr} {ks : List Str} {b : Str → Int} (x : Tab w h ax ks b) : ks.Nodup := let ⟨kvs, ep, a, e, _⟩ := x.at'; e ▸ a.nodup
theorem nodup_le : ∀ {l m : List Str}, l.Nodup → (∀ y ∈ l, y ∈ m) → l.length ≤ m.length
  | [], _, _, _ => Nat.zero_le _
  | a :: l, m, hn, hs => by
    obtain ⟨h1, h2⟩ := List.nodup_cons.mp hn
    have := nodup_le (m := m.erase a) h2 fun y hy => (List.mem_erase_of_ne (fun (e : y = a) => h1 (e ▸ hy))).mpr (hs y (List.mem_cons_of_mem _ hy))
    have hm := hs a List.mem_cons_self
    rw [List.length_erase_of_mem hm] at this
    have : 0 < m.length := List.length_pos_of_mem hm
    simp only [List.length_cons]; omega
theorem Tab.len {w : World} {h : Heap} {ax : Addr} {ks : List Str} {b : Str → Int} (x : Tab w h ax ks b) : ks.length ≤ 9 := nodup_le (m := words) x.nodup x.wd
section
variable {w : World} {A : Around} {h : Heap} {g : Array GenState} {d : Drawn} {k : Nat} {os : OsState} {E : Value → Shared → Prop}
theorem itD {value slice : Expr} {ax : Addr} {ks : List Str} {b : Str → Int} {y : Str} {u : Tok} {Q : Value → Shared → Prop} (T : Tab w h ax ks b) (hy : y ∈ ks) (H : ∀ t k', Q (.int (b y) t) ⟨h, g, d, k', os⟩)
    (hs : subscripted slice false (.ref ax) (.str y u) = operate [.ref ax, .str y u] (getItem (.ref ax) (.str y u))) :
    wpAny (MM w) A (subscriptTail value slice (.ref ax) (.str y u)) Q E ⟨h, g, d, k, os⟩ := by
  obtain ⟨kvs, ep, a, e, hv⟩ := T.at'
  rw [← e] at hy
  obtain ⟨⟨y', v⟩, hm, rfl⟩ := List.mem_map.mp hy
  obtain ⟨i, hi, hq⟩ := List.mem_iff_getElem.mp hm
  obtain ⟨t, ht⟩ := hv _ hm
  have hva := valueAt_of_get a.nodup (i := i) (k := y') (v := v) (by rw [List.getElem?_eq_getElem hi, hq])
  refine tail_any (Heap.DictOf.typeIs (s := ⟨h, g, d, k, os⟩) a.dictOf) slot_dict_getitem.lookup (wpAny_getItem_of (knd := strKind pw w) (k := y') (by simp [PySem.strKind, Value.isStrOf]) a.dictOf.mapOf hva ?_) hs
  simp only at ht
  subst ht
  exact H _ _
theorem shelf_spec {ax : Addr} {ks : List Str} {b : Str → Int} {bit : Int} {t : Tok} (hd : A.depth < recursionLimit) (x : Ok w h) (hh : A.handled = none) (T : Tab w h ax ks b) (h0 : 0 < bit) (h1 : bit < 1073741824) :
    wpAny (MM w) A (call (.ref 803) [.ref ax, .int bit t]) (fun v s' => (∃ r ss, v = .ref r ∧ SL s'.heap r ss ∧ ss.Perm (ks.filter fun y => b y / bit % 2 == 1) ∧ sortedS ss = true) ∧ Keeps ⟨h, g, d, k, os⟩ s') E ⟨h, g, d, k, os⟩ := by
  refine callC (nm := "_law_shelf") (dd := oSt pw 36) (pm := .str "law_oc0270_01" 1299) (c := 802) (binds := [("table", .ref ax), ("bit", .int bit t)]) x (a803 x) (c802 x) hd (by kernel_rfl!) (by
      intro y hy
      simp only [List.mem_cons, List.not_mem_nil, or_false] at hy
      rcases hy with rfl | rfl <;> exact Or.inr ⟨by kernel_rfl!, by kernel_rfl!⟩) (fun h₁ k₁ F X => ?_) (by kernel_rfl!)
  have ok1 := x.fr F
  have X1 : h₁.IsCell _ (some (.ref ax)) := X.cell "table" (h.objs.size + 1) (by kernel_rfl!)
  have X2 : h₁.IsCell _ (some (.int bit t)) := X.cell "bit" (h.objs.size + 1 + 1) (by kernel_rfl!)
  have T1 := T.keep F.keep
  obtain ⟨kvs, ep, a, e, hv⟩ := T1.at'
  refine wpAny_execs_cons ?_
  repeat walk_at "ms"
  refine rCompD (cl := [("table", h.objs.size + 1), ("bit", h.objs.size + 1 + 1)]) (fun y => b y / bit % 2 == 1) id hh (by kernel_rfl!) (by kernel_rfl!) (fun Q E q => ldCe X1 (by kernel_rfl!) q (by kernel_rfl!) (by kernel_rfl!) (by decide +kernel)) a T1.nm ?_ ?_ ?_ ?_ (fun _ => by kernel_rfl!)
  · have := T1.len; rw [← e, List.length_map] at this; rw [sizeLine_eq]; omega
  · intro C y u h' g' d' k' os' m E' hy hC hn hm hk
    rw [e] at hy
    refine wpAny_tests_one ?_
    repeat walk_at "ms"
    refine ldCe (X1.keeps hk) (by kernel_rfl!) ?_ (by kernel_rfl!) (by kernel_rfl!) (by decide +kernel)
    refine ldN hn hm ?_ (by kernel_rfl!) (by kernel_rfl!) (by decide +kernel)
    refine itD (T1.keep hk) hy (fun _ _ => ?_) (by with_unfolding_all rfl)
    refine ldCe (X2.keeps hk) (by kernel_rfl!) ?_ (by kernel_rfl!) (by kernel_rfl!) (by decide +kernel)
    refine rDivI h0 h1 (fun _ _ => ?_)
    repeat walk_at "ms"
    exact ⟨rfl, kps fun _ _ e => e⟩
  · intro C y u h' g' d' k' os' m E' hy hp hC hn hm hk
    refine ldN hn hm ⟨⟨_, rfl⟩, kps fun _ _ e => e⟩ (by kernel_rfl!) (by kernel_rfl!) (by decide +kernel)
  · intro D h₂ k₂ ys hD hpl hS hk
    repeat walk_at "ms"
    rw [e, List.map_id] at hS
    have hlen := hS.length
    refine rSortS hpl.isList hS ?_ fun h₃ r out ss' hr hr2 hl2 k2 hI hp hs => ?_
    · have := T1.len; have := List.length_filter_le (fun y => b y / bit % 2 == 1) ks; omega
    · exact ⟨⟨r, ss', rfl, ⟨out, hl2, hI⟩, hp, hs⟩, kps fun b o q => k2 _ _ (hk _ _ (F.keep _ _ q))⟩
end
section
variable {w : World} {A : Around} {h : Heap} {g : Array GenState} {d : Drawn} {k : Nat} {os : OsState} {E : Value → Shared → Prop} {env : Env} {pos : Pos}
theorem pushNone (h : Heap) : ∀ b o, h.get? b = some o → ∀ x, (h.push x).get? b = some o := fun _ _ e x => Heap.get?_push_of_some x e
theorem rAddV {l b : Addr} {vs ws : List Value} {Q : Value → Shared → Prop} (hl : h.IsList l vs.toArray) (hb : h.IsList b ws.toArray) (hsz : vs.length + ws.length ≤ sizeLine)
    (H : ∀ r h', h.get? r = none → h.objs.size ≤ r → h'.IsList r (vs ++ ws).toArray → (∀ b o, h.get? b = some o → h'.get? b = some o) → Q (.ref r) ⟨h', g, d, k, os⟩) :
    wpAny (MM w) A (binaryOp .Add (.ref l) (.ref b)) Q E ⟨h, g, d, k, os⟩ := by
  obtain ⟨⟨cls, dd, data, sl⟩, ho, hc, n, hd⟩ := id hl
  obtain ⟨⟨cls2, dd2, data2, sl2⟩, ho2, hc2, n2, hd2⟩ := id hb
  simp only at hc hd hc2 hd2
  subst hc hd hc2 hd2
  have e : vs.toArray ++ ws.toArray = (vs ++ ws).toArray := by simp
  refine concat_meets ⟨_, ho, rfl⟩ ⟨_, ho2, rfl⟩ noFill_list_add seq_list_add PySem.F.slot_list_add PySem.F.entry_list_add (PySem.F.args_list_add_2 _ _) (list_addW l b vs.toArray ws.toArray n n2 dd dd2 sl sl2 (by simpa using hsz)) ⟨ho, ho2, ?_⟩
  rw [e]
  exact H _ _ (fresh_none h) (Nat.le_refl _) ⟨_, Heap.get?_push_size _ rfl, rfl, 0, rfl⟩ fun _ _ e => Heap.get?_push_of_some _ e
theorem rAddL {l b : Addr} {ss ts : List Str} {Q : Value → Shared → Prop} (hl : SL h l ss) (hb : SL h b ts) (hsz : ss.length + ts.length ≤ sizeLine)
    (H : ∀ r h', h.get? r = none → h.objs.size ≤ r → SL h' r (ss ++ ts) → (∀ b o, h.get? b = some o → h'.get? b = some o) → Q (.ref r) ⟨h', g, d, k, os⟩) :
    wpAny (MM w) A (binaryOp .Add (.ref l) (.ref b)) Q E ⟨h, g, d, k, os⟩ := by
  obtain ⟨vs, a1, a2⟩ := hl
  obtain ⟨us, b1, b2⟩ := hb
  exact rAddV a1 b1 (by rw [a2.length, b2.length]; exact hsz) fun r h' e1 e2 e3 e4 => H r h' e1 e2 ⟨_, e3, a2.append' b2⟩ e4
theorem rNotIn {l : Addr} {ss : List Str} {x : Str} {t : Tok} {s : Shared} {Q : Value → Shared → Prop} (hl : SL s.heap l ss) (H : Q (.bool (!(ss.any (· == x)))) s) : wpAny (MM w) A (compareOp .NotIn (.str x t) (.ref l)) Q E s :=
  let ⟨_, a, b⟩ := hl; notin_list_strs a b H
/-- a slice of a str from a place on -/
theorem rSlS {value : Expr} {x : Str} {t : Tok} {i : Int} {kd : Nat} {p p' : Pos} {Q : Value → Shared → Prop} (hv : ∀ Q E, Q (.str x t) ⟨h, g, d, k, os⟩ → wpAny (MM w) A (eval value env) Q E ⟨h, g, d, k, os⟩) (hsz : x.length ≤ sizeLine)
    (H : ∀ u h' k', (∀ b o, h.get? b = some o → h'.get? b = some o) → Q (.str (Txt.slice x (some i) none) u) ⟨h', g, d, k', os⟩)
    (hs : ∀ r, subscripted (.Slice (some (.Constant (.int i) kd p)) none none p') false (.str x t) r = operate [r, .str x t] (getItem (.str x t) r)) (ht : ∀ r, letTemporaryGo value (.str x t) r = pure ()) :
    wpAny (MM w) A (eval (.Subscript value (.Slice (some (.Constant (.int i) kd p)) none none p') pos) env) Q E ⟨h, g, d, k, os⟩ := by
  refine Subscript_ (hv _ _ ?_)
  refine wpAny_Slice (wpAny_evalPart_some (rInt fun u k' => wpAny_evalPart_none (wpAny_evalPart_none ?_)))
  refine tail_of_ItemOn (SBH.sliceItem_sn (s := ⟨h, g, d, k', os⟩) (P := fun h' => ∀ b o, h.get? b = some o → h'.get? b = some o) (fun _ ob q b o e => Heap.get?_push_of_some _ (q b o e)) (fun _ _ e => e) (fun h' t' k q => H t' h' k q) hsz) (hs _) ht
end
section
variable {w : World} {A : Around} {h : Heap} {g : Array GenState} {d : Drawn} {k : Nat} {os : OsState} {E : Value → Shared → Prop}
def minus (y : Str) : Str := ("-" : Str) ++ y
def plus (y : Str) : Str := ("+" : Str) ++ y
theorem due_spec {a b : Addr} {old new : List Str} (hd : A.depth < recursionLimit) (x : Ok w h) (hh : A.handled = none) (ha : SL h a old) (hb : SL h b new) (l1 : old.length ≤ 63) (l2 : new.length ≤ 63) (w1 : ∀ y ∈ old, y.length ≤ 9) (w2 : ∀ y ∈ new, y.length ≤ 9) :
    wpAny (MM w) A (call (.ref 813) [.ref a, .ref b]) (fun v s' => (∃ r, v = .ref r ∧ SL s'.heap r ((old.filter fun y => !(new.any (· == y))).map minus ++ (new.filter fun y => !(old.any (· == y))).map plus)) ∧ Keeps ⟨h, g, d, k, os⟩ s') E ⟨h, g, d, k, os⟩ := by
  refine callC (nm := "_law_due") (dd := oSt pw 38) (pm := .str "law_oc0270_01" 1299) (c := 812) (binds := [("old", .ref a), ("new", .ref b)]) x (a813 x) (c812 x) hd (by kernel_rfl!) (by
      intro y hy
      simp only [List.mem_cons, List.not_mem_nil, or_false] at hy
      rcases hy with rfl | rfl <;> exact Or.inr ⟨by kernel_rfl!, by kernel_rfl!⟩) (fun h₁ k₁ F X => ?_) (by kernel_rfl!)
  have ok1 := x.fr F
  have X1 : h₁.IsCell _ (some (.ref a)) := X.cell "old" (h.objs.size + 1) (by kernel_rfl!)
  have X2 : h₁.IsCell _ (some (.ref b)) := X.cell "new" (h.objs.size + 1 + 1) (by kernel_rfl!)
  have A1 := ha.keep F.keep
  have B1 := hb.keep F.keep
  obtain ⟨vs, a1, a2⟩ := id A1
  have la := a2.length
  refine wpAny_execs_cons ?_
  repeat walk_at "ms"
  refine rCompS (cl := [("new", h.objs.size + 1 + 1)]) (fun y => !(new.any (· == y))) minus hh (by kernel_rfl!) (by kernel_rfl!) (fun Q E q => ldCe X1 (by kernel_rfl!) q (by kernel_rfl!) (by kernel_rfl!) (by decide +kernel)) a1 a2 (by rw [sizeLine_eq]; omega) ?_ ?_ ?_ (fun _ => by kernel_rfl!)
  · intro C y u h' g' d' k' os' m E' hy hC hn hm hk
    refine wpAny_tests_one ?_
    repeat walk_at "ms"
    refine ldN hn hm ?_ (by kernel_rfl!) (by kernel_rfl!) (by decide +kernel)
    refine ldCe (X2.keeps hk) (by kernel_rfl!) ?_ (by kernel_rfl!) (by kernel_rfl!) (by decide +kernel)
    refine rNotIn (B1.keep hk) ?_
    repeat walk_at "ms"
    exact ⟨rfl, kps fun _ _ e => e⟩
  · intro C y u h' g' d' k' os' m E' hy hp hC hn hm hk
    repeat walk_at "ms"
    refine ldN hn hm ?_ (by kernel_rfl!) (by kernel_rfl!) (by decide +kernel)
    refine rAddS (by have := w1 y hy; rw [sizeLine_eq]; show 1 + _ ≤ _; omega) (fun _ _ => ?_)
    exact ⟨⟨_, rfl⟩, kps fun _ _ e => e⟩
  · intro D h₂ k₂ ys hD hpl hS hk
    obtain ⟨ws, b1, b2⟩ := B1.keep hk
    have lb := b2.length
    have L1 := List.length_filter_le (fun y => !(new.any (· == y))) old
    have L2 := List.length_filter_le (fun y => !(old.any (· == y))) new
    refine rCompS (cl := [("old", h.objs.size + 1)]) (fun y => !(old.any (· == y))) plus hh (by kernel_rfl!) (by kernel_rfl!) (fun Q E q => ldCe (X2.keeps hk) (by kernel_rfl!) q (by kernel_rfl!) (by kernel_rfl!) (by decide +kernel)) b1 b2 (by rw [sizeLine_eq]; omega) ?_ ?_ ?_ (fun _ => by kernel_rfl!)
    · intro C y u h' g' d' k' os' m E' hy hC hn hm hk'
      refine wpAny_tests_one ?_
      repeat walk_at "ms"
      refine ldN hn hm ?_ (by kernel_rfl!) (by kernel_rfl!) (by decide +kernel)
      refine ldCe ((X1.keeps hk).keeps hk') (by kernel_rfl!) ?_ (by kernel_rfl!) (by kernel_rfl!) (by decide +kernel)
      refine rNotIn ((A1.keep hk).keep hk') ?_
      repeat walk_at "ms"
      exact ⟨rfl, kps fun _ _ e => e⟩
    · intro C y u h' g' d' k' os' m E' hy hp hC hn hm hk'
      repeat walk_at "ms"
      refine ldN hn hm ?_ (by kernel_rfl!) (by kernel_rfl!) (by decide +kernel)
      refine rAddS (by have := w2 y hy; rw [sizeLine_eq]; show 1 + _ ≤ _; omega) (fun _ _ => ?_)
      exact ⟨⟨_, rfl⟩, kps fun _ _ e => e⟩
    · intro D' h₃ k₃ ys' hD' hpl' hS' hk'
      have SD : SL h₃ D _ := SL.keep ⟨ys, hpl.isList, hS⟩ hk'
      refine rAddL SD ⟨ys', hpl'.isList, hS'⟩ (by simp only [List.length_map]; rw [sizeLine_eq]; omega) fun r h₄ hr hr2 hl4 hk4 => ?_
      exact ⟨⟨r, rfl, hl4⟩, kps fun b o q => hk4 _ _ (hk' _ _ (hk _ _ (F.keep _ _ q)))⟩
end
section
variable {w : World} {A : Around} {h : Heap} {g : Array GenState} {d : Drawn} {k : Nat} {os : OsState} {E : Value → Shared → Prop} {env : Env} {pos : Pos}
/-- a for statement over a list that stays -/
theorem rForL {x : Str} {px : Pos} {iter : Expr} {body : List Stmt} {ax : Addr} {vs : List Value} {Q : Flow → Shared → Prop} (I : Nat → Heap → Prop)
    (hh : A.handled = none) (hiter : ∀ Q E, Q (.ref ax) ⟨h, g, d, k, os⟩ → wpAny (MM w) A (eval iter env) Q E ⟨h, g, d, k, os⟩) (hl : h.IsList ax vs.toArray)
    (h0 : ∀ h', (∀ b o, h.get? b = some o → h'.get? b = some o) → h.objs.size < h'.objs.size → I 0 h')
    (hst : ∀ i h' h'', I i h' → (∀ b o, b ≠ h.objs.size → h'.get? b = some o → h''.get? b = some o) → I i h'')
    (step : ∀ i v h' k', vs[i]? = some v → I i h' → h'.IsList ax vs.toArray → (∃ o, h'.get? h.objs.size = some o) →
      wpAny (MM w) A (assign (.Name x px) env v) (fun _ s₂ => wpAny (MM w) A (execs body env) (fun f s₃ => f = .next ∧ ∃ h'' k'', s₃ = ⟨h'', g, d, k'', os⟩ ∧ I (i + 1) h'' ∧
        (∀ o, h'.get? h.objs.size = some o → h''.get? h.objs.size = some o) ∧ (∀ o, h'.get? ax = some o → h''.get? ax = some o)) (fun _ _ => False) s₂) (fun _ _ => False) ⟨h', g, d, k', os⟩)
    (HQ : ∀ h' k', I vs.length h' → Q .next ⟨h', g, d, k', os⟩) (hs : ∀ x, foldedSetIterable iter env x = pure x) :
    wpAny (MM w) A (exec (.For (.Name x px) iter body [] pos) env) Q (fun _ _ => False) ⟨h, g, d, k, os⟩ := by
  refine wpAny_For (hiter _ _ (wpAny_pyIter_list hl ?_)) hs
  have hax : ax ≠ h.objs.size := by obtain ⟨o, e, _⟩ := hl; exact Nat.ne_of_lt (Heap.lt_size e)
  refine codeAny_forLoop (fun n s' => ∃ h' k' i, s' = ⟨h', g, d, k', os⟩ ∧ h'.IsListIter h.objs.size ax i ∧ h'.IsList ax vs.toArray ∧ I i h' ∧ i ≤ vs.length ∧ n = vs.length + 1 - i ∧ h.objs.size < h'.objs.size) ?_ (vs.length + 1)
    ⟨_, k, 0, rfl, ⟨_, Heap.get?_push_size _ rfl, rfl, rfl⟩, hl.push _, h0 _ (fun _ _ e => Heap.get?_push_of_some _ e) (by rw [Heap.size_push]; exact Nat.lt_succ_self _), Nat.zero_le _, rfl, by rw [Heap.size_push]; exact Nat.lt_succ_self _⟩
  rintro n s' ⟨h', k', i, rfl, hit, hl', hI, hi, rfl, hsz⟩
  cases hv : vs[i]? with
  | none =>
    have hsz : i = vs.length := Nat.le_antisymm hi (by simpa using hv)
    refine wpAny_pyNext_list_end hh hit hl' (by simpa using hv) fun h₁ he₁ => wpAny_execs_nil ?_
    exact HQ _ _ (hst _ h' h₁ (hsz ▸ hI) fun b o hb e => he₁ b o hb e)
  | some v =>
    have hlt : i < vs.length := (List.getElem?_eq_some_iff.mp hv).1
    refine wpAny_pyNext_list_item hit hl' (by simpa using hv) fun h₁ hit₁ hs₁ => ?_
    have hI1 := hst i h' h₁ hI (fun b o hb e => hs₁.extBut b o hb e)
    refine wpAny_mono (step i v h₁ k' hv hI1 (hl'.extBut hs₁.extBut hax) (let ⟨o, q, _⟩ := hit₁; ⟨o, q⟩)) (fun _ s₂ h₂ => wpAny_mono h₂ (fun f s₃ h₃ => ?_) fun _ _ e => e.elim) fun _ _ e => e.elim
    obtain ⟨rfl, h₃', k₃, rfl, hI3, e1, e2⟩ := h₃
    refine ⟨vs.length + 1 - (i + 1), by omega, h₃', k₃, i + 1, rfl, ?_, isl (hl'.extBut hs₁.extBut hax) e2, hI3, hlt, rfl, ?_⟩
    · obtain ⟨o, q, r⟩ := hit₁; exact ⟨o, e1 o q, r⟩
    · obtain ⟨o, q, r⟩ := hit₁; exact Heap.lt_size (e1 o q)
end
section
variable {w : World} {A : Around} {E : Value → Shared → Prop} {s : Shared} {env : Env} {pos spos : Pos} {Q : Flow → Shared → Prop}
variable {h : Heap} {g : Array GenState} {d : Drawn} {k : Nat} {os : OsState}
/-- name = list comprehension over a list of strs, the store being made before the comprehension's own names go -/
theorem rCompA {elt iter : Expr} {x y : Str} {px py : Pos} {ifs : List Expr} {scope : Scope} {cl : List (Str × Addr)} {ax : Addr} {vs : List Value} {ss : List Str} {m : Str → Option Value} (p : Str → Bool) (f : Str → Str)
    (hh : A.handled = none) (hsc : scopeOk scope x = true) (hclos : closureFor scope env = pure cl)
    (hsw : swapsWith (.ListComp elt [⟨.Name x px, iter, ifs, 0⟩] scope pos) (some (.Name y py)) spos.line env = pure true) (hy : env.kindOf y = some .local) (hp : (env.scope.kind == .class || (env.scope.kind == .module && env.locals != env.globals)) = false)
    (hiter : ∀ Q E, Q (.ref ax) ⟨h, g, d, k, os⟩ → wpAny (MM w) A (eval iter env) Q E ⟨h, g, d, k, os⟩)
    (hl : h.IsList ax vs.toArray) (hS : StrsAre vs ss) (hn : vs.length ≤ sizeLine) (hns : h.Ns env.locals m)
    (Ht : ∀ C y t h' g' d' k' os' m E', y ∈ ss → h.objs.size ≤ C → h'.Ns C m → m x = some (.str y t) → (∀ b o, h.get? b = some o → h'.get? b = some o) →
      wpAny (MM w) A (forIn ifs true fun c r => if r = true then do let ok ← isTrue c (compEnvC scope cl C env) (eval c (compEnvC scope cl C env)); pure (ForInStep.yield ok) else pure (ForInStep.yield r))
        (fun ok s₄ => ok = p y ∧ Keeps ⟨h', g', d', k', os'⟩ s₄) E' ⟨h', g', d', k', os'⟩)
    (He : ∀ C y t h' g' d' k' os' m E', y ∈ ss → p y = true → h.objs.size ≤ C → h'.Ns C m → m x = some (.str y t) → (∀ b o, h.get? b = some o → h'.get? b = some o) →
      wpAny (MM w) A (eval elt (compEnvC scope cl C env)) (fun v s₄ => (∃ u, v = .str (f y) u) ∧ Keeps ⟨h', g', d', k', os'⟩ s₄) E' ⟨h', g', d', k', os'⟩)
    (HQ : ∀ D h' k' ys, h.get? D = none → h'.PlainList D ys.toArray → StrsAre ys ((ss.filter p).map f) → h'.Ns env.locals (fun z => if z = y then some (.ref D) else m z) → (∀ b o, b ≠ env.locals → h.get? b = some o → h'.get? b = some o) → Q .next ⟨h', g, d, k', os⟩)
    (hs : ∀ x, foldedSetIterable iter env x = pure x) :
    wpAny (MM w) A (exec (.Assign [.Name y py] (.ListComp elt [⟨.Name x px, iter, ifs, 0⟩] scope pos) spos) env) Q E ⟨h, g, d, k, os⟩ := by
  obtain ⟨c1, c2, c3, c4⟩ := scopeOk_spec hsc
  refine wpAny_Assign_ListComp_free (strTest p) (fun v y => ∃ a t u, v = Value.str a t ∧ y = Value.str (f a) u) hsw hclos c1 c2 c3 c4 hy hp (hiter _ _ ?_) hs
  refine wpAny_pyIter_list hl ?_
  have hax : ax < h.objs.size := by obtain ⟨_, e, _⟩ := hl; exact Heap.lt_size e
  have notI : ∀ b, b < h.objs.size → b ∉ [h.objs.size] := fun b hb hm => by
    rcases List.mem_cons.mp hm with e | hm
    · exact Nat.lt_irrefl _ (e ▸ hb)
    · cases hm
  have keepI : ∀ (s₃ : Shared), (∀ b o, b ∉ [h.objs.size] → (h.push { cls := .type "list_iterator", data := .fields #[.ref ax, .int 0 0] }).get? b = some o → s₃.heap.get? b = some o) →
      ∀ b o, h.get? b = some o → s₃.heap.get? b = some o := fun s₃ hold b o e => hold b o (notI b (Heap.lt_size e)) (Heap.get?_push_of_some _ e)
  refine ⟨h.objs.size, [h.objs.size, ax], [h.objs.size], vs.toArray.size, (fun i v => vs.toArray[i]? = some v), _, m, rfl, Walks.list hh h.objs.size ax (Nat.ne_of_lt hax) vs.toArray, by simpa using hn,
    ⟨⟨_, Heap.get?_push_size _ rfl, rfl, rfl⟩, hl.push _⟩, ?_, notI _ hns.lt, hns.push _, ⟨?_, ?_⟩, ?_⟩
  · intro b hb
    show b < (h.push _).objs.size
    rw [Heap.size_push]
    rcases List.mem_cons.mp hb with rfl | hb
    · exact Nat.lt_succ_self _
    · rcases List.mem_cons.mp hb with rfl | hb
      · exact Nat.lt_succ_of_lt hax
      · cases hb
  · intro C i v s₃ m₃ E' hC hP hn hm hold _
    obtain ⟨y, t, rfl, hy⟩ := hS.item i v (by simpa using hP)
    obtain ⟨h', g', d', k', os'⟩ := s₃
    exact Ht C y t h' g' d' k' os' m₃ E' (List.mem_of_getElem? hy) (Nat.le_trans (by show _ ≤ (h.push _).objs.size; rw [Heap.size_push]; exact Nat.le_succ _) hC) hn hm (keepI _ hold)
  · intro C i v s₃ m₃ E' hC hP hp hn hm hold _
    obtain ⟨y, t, rfl, hy⟩ := hS.item i v (by simpa using hP)
    obtain ⟨h', g', d', k', os'⟩ := s₃
    exact wpAny_mono (He C y t h' g' d' k' os' m₃ E' (List.mem_of_getElem? hy) hp (Nat.le_trans (by show _ ≤ (h.push _).objs.size; rw [Heap.size_push]; exact Nat.le_succ _) hC) hn hm (keepI _ hold))
      (fun v s₄ hv => ⟨let ⟨u, e⟩ := hv.1; ⟨y, t, u, rfl, e⟩, hv.2⟩) fun _ _ e => e
  · intro D h' tk ys vs' hnew hlD hplD hlen hP hF hnsD hk
    rw [list_of_places hlen hP] at hF
    have hF' : Paired (fun v y => ∃ a t u, v = Value.str a t ∧ y = Value.str (f a) u) (vs.filter (strTest p)) ys.toList := by simpa using hF
    refine HQ D h' tk ys.toList ?_ (by simpa using hplD) (paired_strs p f hS hF') hnsD (fun b o hb e => hk b o hb (notI b (Heap.lt_size e)) (Heap.get?_push_of_some _ e))
    cases e : h.get? D with
    | none => rfl
    | some o' => rw [Heap.get?_push_of_some _ e] at hnew; cases hnew
end
section
variable {w : World} {A : Around} {E : Value → Shared → Prop} {h : Heap} {g : Array GenState} {d : Drawn} {k : Nat} {os : OsState} {name : Str} {scope : Scope} {L a : Addr} {cd : Value} {h₀ : Heap} {m cm : Str → Option Value}
theorem rStL {x : Str} {v : Value} {Q : Unit → Shared → Prop} (F : Fr h₀ L h m) (X : Cl L (cellsFrom (L + 1) scope.names []) h cm)
    (H : ∀ h' k', Fr h₀ L h' (fun y => if y = x then some v else m y) → Cl L (cellsFrom (L + 1) scope.names []) h' cm → (∀ b o, h.get? b = some o → b ≠ L → h'.get? b = some o) → Q () ⟨h', g, d, k', os⟩)
    (hk : scope.kind = .function) (hl : (envOfC name scope L a cd).kindOf x = some .local) :
    wpAny (MM w) A (storeName (envOfC name scope L a cd) x v) Q E ⟨h, g, d, k, os⟩ :=
  wpAny_storeName_local hl F.ns (fun h' hn hs => H h' _ (F.set hn hs) (X.sameBut hs (Nat.le_refl _)) fun b o e ne => (hs.2 b ne).trans e)
    (by show (scope.kind == .class || (scope.kind == .module && L != mainGlobals)) = false; rw [hk]; rfl)
theorem rStC {x : Str} {c : Addr} {v : Value} {Q : Unit → Shared → Prop} (F : Fr h₀ L h m) (X : Cl L (cellsFrom (L + 1) scope.names []) h cm) (hc : (cellsFrom (L + 1) scope.names []).lookup x = some c)
    (H : ∀ h', Fr h₀ L h' m → Cl L (cellsFrom (L + 1) scope.names []) h' (fun y => if y = x then some v else cm y) → (∀ b o, h.get? b = some o → b ≠ c → h'.get? b = some o) → Q () ⟨h', g, d, k, os⟩)
    (hk : scope.kind = .function) (hl : (envOfC name scope L a cd).kindOf x = some .cell) :
    wpAny (MM w) A (storeName (envOfC name scope L a cd) x v) Q E ⟨h, g, d, k, os⟩ := by
  have hLc : L < c := X.above x c (mem_of_lookup hc)
  refine wpAny_storeName_cell hk hl hc (X.cell x c hc) fun h' hv hs => H h' ⟨F.ns.sameBut hs (Nat.ne_of_lt hLc), fun b o e => (hs.2 b (Nat.ne_of_lt (Nat.lt_trans (Nat.lt_of_lt_of_le (Heap.lt_size e) F.above) hLc))).trans (F.keep b o e), F.above⟩
    ⟨fun n c' e => ?_, X.apart, X.above⟩ fun b o e ne => (hs.2 b ne).trans e
  by_cases hn : n = x
  · subst hn; rw [hc] at e; cases e; simpa using hv
  · have hcc : c' ≠ c := fun q => hn (name_of_addr X.apart (mem_of_lookup e) (q ▸ mem_of_lookup hc))
    simpa [hn] using (X.cell n c' e).sameBut hs hcc
theorem Cl.offL {h' : Heap} {cs : List (Str × Addr)} (X : Cl L cs h cm) (k : ∀ b o, b ≠ L → h.get? b = some o → h'.get? b = some o) : Cl L cs h' cm :=
  ⟨fun n c e => let ⟨o, ho, q⟩ := X.cell n c e; ⟨o, k c o (Nat.ne_of_gt (X.above n c (mem_of_lookup e))) ho, q⟩, X.apart, X.above⟩
theorem Fr.but {h' : Heap} {it : Addr} (F : Fr h₀ L h m) (hi : L < it) (k : ∀ b o, b ≠ it → h.get? b = some o → h'.get? b = some o) : Fr h₀ L h' m :=
  ⟨F.ns.at' fun o e => k _ _ (Nat.ne_of_lt hi) e, fun b o e => k _ _ (Nat.ne_of_lt (Nat.lt_trans (Nat.lt_of_lt_of_le (Heap.lt_size e) F.above) hi)) (F.keep b o e), F.above⟩
end
section
variable {w : World} {A : Around} {h : Heap} {g : Array GenState} {d : Drawn} {k : Nat} {os : OsState} {E : Value → Shared → Prop}
def chg (c : Bool × Str) : Str := if c.1 then minus c.2 else plus c.2
def apply1 (ws : List Str) (c : Bool × Str) : List Str := if c.1 then ws.filter (· != c.2) else if ws.any (· == c.2) then ws else ws ++ [c.2]
theorem apply1_len (ws : List Str) (c : Bool × Str) : (apply1 ws c).length ≤ ws.length + 1 := by
  unfold apply1
  split
  · exact Nat.le_succ_of_le (List.length_filter_le _ _)
  · split
    · exact Nat.le_succ _
    · simp
theorem fold_len : ∀ (l : List (Bool × Str)) (ws : List Str), (l.foldl apply1 ws).length ≤ ws.length + l.length
  | [], _ => Nat.le_refl _
  | c :: l, ws => by have := fold_len l (apply1 ws c); have := apply1_len ws c; simp only [List.foldl_cons, List.length_cons]; omega
theorem chg_tail : ∀ y ∈ words, ∀ b, Txt.slice (chg (b, y)) (some 1) none = y := by decide +kernel
theorem chg_head : ∀ y ∈ words, ∀ b, (seqIndex? 0 (chg (b, y)).length).bind ((chg (b, y)).cps[·]?) = some (if b then 45 else 43) := by decide +kernel
theorem chg_len : ∀ y ∈ words, ∀ b, (chg (b, y)).length ≤ 9 := by decide +kernel
theorem str_bne (x y : Str) : (x.cps.toList != y.cps.toList) = (x != y) := by
  rw [Bool.eq_iff_iff, bne_iff_ne, bne_iff_ne]
  constructor
  · intro q e; exact q (e ▸ rfl)
  · intro q e; apply q
    obtain ⟨⟨a⟩⟩ := x; obtain ⟨⟨b⟩⟩ := y
    simp only at e; rw [e]
theorem rSl1 {env : Env} {value : Expr} {x : Str} {t : Tok} {i : Int} {kd : Nat} {p p' : Pos} {Q : Value → Shared → Prop} (hsz : x.length ≤ sizeLine)
    (H : ∀ u h' k', (∀ b o, h.get? b = some o → h'.get? b = some o) → Q (.str (Txt.slice x (some i) none) u) ⟨h', g, d, k', os⟩)
    (hs : ∀ r, subscripted (.Slice (some (.Constant (.int i) kd p)) none none p') false (.str x t) r = operate [r, .str x t] (getItem (.str x t) r)) (ht : ∀ r, letTemporaryGo value (.str x t) r = pure ()) :
    wpAny (MM w) A (eval (.Slice (some (.Constant (.int i) kd p)) none none p') env) (fun iv s₂ => wpAny (MM w) A (subscriptTail value (.Slice (some (.Constant (.int i) kd p)) none none p') (.str x t) iv) Q E s₂) E ⟨h, g, d, k, os⟩ := by
  refine wpAny_Slice (wpAny_evalPart_some (rInt fun u k' => wpAny_evalPart_none (wpAny_evalPart_none ?_)))
  refine tail_of_ItemOn (SBH.sliceItem_sn (s := ⟨h, g, d, k', os⟩) (P := fun h' => ∀ b o, h.get? b = some o → h'.get? b = some o) (fun _ ob q b o e => Heap.get?_push_of_some _ (q b o e)) (fun _ _ e => e) (fun h' t' k q => H t' h' k q) hsz) (hs _) ht
theorem changed_spec {a b : Addr} {told : List (Bool × Str)} {shelf : List Str} (hd : A.depth < recursionLimit) (x : Ok w h) (hh : A.handled = none) (ha : SL h a (told.map chg)) (hb : SL h b shelf) (l1 : told.length + shelf.length ≤ 63) (w1 : ∀ y ∈ told, y.2 ∈ words) :
    wpAny (MM w) A (call (.ref 818) [.ref a, .ref b]) (fun v s' => (∃ r ss, v = .ref r ∧ SL s'.heap r ss ∧ ss.Perm (told.foldl apply1 shelf) ∧ sortedS ss = true) ∧ Keeps ⟨h, g, d, k, os⟩ s') E ⟨h, g, d, k, os⟩ := by
  refine callC (nm := "_law_changed") (dd := oSt pw 39) (pm := .str "law_oc0270_01" 1299) (c := 817) (binds := [("told", .ref a), ("shelf", .ref b)]) x (a818 x) (c817 x) hd (by kernel_rfl!) (by
      intro y hy
      simp only [List.mem_cons, List.not_mem_nil, or_false] at hy
      rcases hy with rfl | rfl <;> exact Or.inl (by kernel_rfl!)) (fun h₁ k₁ F X => ?_) (by kernel_rfl!)
  have ok1 := x.fr F
  have B1 := hb.keep F.keep
  refine wpAny_execs_cons ?_
  repeat walk_at "ms"
  refine PyProof.Rows.callWith_type1 ?_ (by with_unfolding_all rfl) (by with_unfolding_all rfl)
  repeat walk_at "ms"
  refine ldN F.ns (by with_unfolding_all rfl) ?_ (by kernel_rfl!) (by kernel_rfl!) (by decide +kernel)
  repeat walk_at "ms"
  obtain ⟨vs, ⟨o, ho, hc, n, hdat⟩, b2⟩ := B1
  refine call_list_seq (s := ⟨h₁, g, d, k₁, os⟩) b (T := "list") (.inl rfl) ho hc hdat (fun h₂ c' k2 hl2 => ?_) (by have := b2.length; simp; rw [sizeLine_eq]; omega)
  have F2 := F.kept k2
  have X2 := X.keeps k2
  have hLl := F.ns.lt
  have hcc : (cellsFrom (h.objs.size + 1) (oScope (oSt pw 39)).names []).lookup (("change" : String) : Str) = some (h.objs.size + 1) := by kernel_rfl!
  have hLr : h.objs.size + 1 < h₁.objs.size := (X.cell _ _ hcc).lt
  refine rStL F2 X2 (fun h₃ k₃ F3 X3 kk3 => ?_) (by kernel_rfl!) (by kernel_rfl!)
  have S3 : SL h₃ h₁.objs.size shelf := ⟨vs, ⟨_, kk3 _ _ hl2 (Nat.ne_of_gt hLl), rfl, c', rfl⟩, b2⟩
  have hlt3 : h₁.objs.size < h₃.objs.size := by obtain ⟨_, ⟨_, q, _⟩, _⟩ := S3; exact Heap.lt_size q
  clear F2 X2 kk3 hl2
  repeat walk_at "ms"
  obtain ⟨us, u1, u2⟩ := ha.keep F3.keep
  have hul := u2.length
  rw [List.length_map] at hul
  have hcl : ∀ n c, (cellsFrom (h.objs.size + 1) (oScope (oSt pw 39)).names []).lookup n = some c → c < h₃.objs.size := fun n c e => (X3.cell n c e).lt
  refine rForL (ax := a) (vs := us) (fun i h' => ∃ m cm r, Fr h h.objs.size h' m ∧ Cl h.objs.size (cellsFrom (h.objs.size + 1) (oScope (oSt pw 39)).names []) h' cm ∧ m "words" = some (.ref r) ∧ m "told" = some (.ref a) ∧ SL h' r ((told.take i).foldl apply1 shelf) ∧ r ≠ h₃.objs.size ∧ r ≠ h.objs.size ∧ r ≠ h.objs.size + 1) hh
    (fun Q E q => ldN F3.ns (by walk_at "lk") q (by kernel_rfl!) (by kernel_rfl!) (by decide +kernel)) u1 ?_ ?_ ?_ ?_ (fun _ => by kernel_rfl!)
  · intro h' hk hsz
    exact ⟨_, _, h₁.objs.size, F3.kept hk, X3.keeps hk, by walk_at "lk", by walk_at "lk", S3.keep hk, Nat.ne_of_lt hlt3, Nat.ne_of_gt hLl, Nat.ne_of_gt hLr⟩
  · rintro i h' h'' ⟨m, cm, r, F', X', e1, e2, S', q1, hrL, hrc⟩ hk
    refine ⟨m, cm, r, Fr.but F' F3.ns.lt hk, ⟨fun n c e => ?_, X'.apart, X'.above⟩, e1, e2, ?_, q1, hrL, hrc⟩
    · obtain ⟨o, ho, hdd⟩ := X'.cell n c e
      exact ⟨o, hk c o (Nat.ne_of_lt (hcl n c e)) ho, hdd⟩
    · obtain ⟨vs, v1, v2⟩ := S'
      exact ⟨vs, isl v1 fun o => hk r o q1, v2⟩
  · rintro i v h' k' hv ⟨m, cm, r, F', X', e1, e2, S', q1, hrL, hrc⟩ hla hit
    obtain ⟨y, t, rfl, hy⟩ := u2.item i v hv
    rw [List.getElem?_map] at hy
    obtain ⟨⟨bb, y'⟩, hy', rfl⟩ := Option.map_eq_some_iff.mp hy
    have hyw : y' ∈ words := w1 _ (List.mem_of_getElem? hy')
    have hfold : (told.take (i + 1)).foldl apply1 shelf = apply1 ((told.take i).foldl apply1 shelf) (bb, y') := by
      rw [List.take_add_one, hy', Option.toList, List.foldl_append]; rfl
    have hflen := fold_len (told.take i) shelf
    have htl : (told.take i).length ≤ told.length := by rw [List.length_take]; exact Nat.min_le_right _ _
    rw [hfold]
    refine wpAny_assign_Name ?_
    refine rStC F' X' hcc (fun h₄ F4 X4 kk4 => ?_) (by kernel_rfl!) (by kernel_rfl!)
    have S4 : SL h₄ r ((told.take i).foldl apply1 shelf) := by obtain ⟨vs, v1, v2⟩ := S'; exact ⟨vs, isl v1 fun o q => kk4 r o q hrc, v2⟩
    have C4 : h₄.IsCell (h.objs.size + 1) (some (.str (chg (bb, y')) t)) := X4.cell _ _ hcc
    have hac : a < h.objs.size := by obtain ⟨_, ⟨_, q, _⟩, _⟩ := ha; exact Heap.lt_size q
    have ka : ∀ o, h'.get? a = some o → h₄.get? a = some o := fun o q => kk4 a o q (Nat.ne_of_lt (Nat.lt_succ_of_lt hac))
    have ki : ∀ o, h'.get? h₃.objs.size = some o → h₄.get? h₃.objs.size = some o := fun o q => kk4 _ o q (Nat.ne_of_gt (Nat.lt_trans hLr hlt3))
    clear F' X' S' kk4
    have hltL : h.objs.size < h₃.objs.size := F3.ns.lt
    refine wpAny_execs_cons ?_
    repeat walk_at "ms"
    refine ldCe C4 (by kernel_rfl!) ?_ (by kernel_rfl!) (by kernel_rfl!) (by decide +kernel)
    repeat walk_at "ms"
    refine itS (by decide) (chg_head _ hyw bb) (fun _ _ => ?_) (by with_unfolding_all rfl)
    repeat walk_at "ms"
    refine eq_str ?_
    repeat walk_at "ms"
    cases bb with
    | true =>
      refine split_bool (fun _ => ?_) (fun hc => absurd hc (by decide +kernel))
      refine wpAny_execs_cons ?_
      obtain ⟨vs, v1, v2⟩ := id S4
      have vl := v2.length
      refine rCompA (ax := r) (cl := [("change", h.objs.size + 1)]) (fun z => z != y') id hh (by kernel_rfl!) (by kernel_rfl!) (by kernel_rfl!) (by kernel_rfl!) (by kernel_rfl!)
        (fun Q E q => ldN F4.ns e1 q (by kernel_rfl!) (by kernel_rfl!) (by decide +kernel)) v1 v2 (by rw [sizeLine_eq]; omega) F4.ns ?_ ?_ ?_ (fun _ => by kernel_rfl!)
      · intro C z u h' g' d' k' os' m E' hz hC hn hm hk
        refine wpAny_tests_one ?_
        repeat walk_at "ms"
        refine ldN hn hm ?_ (by kernel_rfl!) (by kernel_rfl!) (by decide +kernel)
        refine rSlS (x := chg (true, y')) (t := t) (fun Q E q => ldCe (C4.keeps hk) (by kernel_rfl!) q (by kernel_rfl!) (by kernel_rfl!) (by decide +kernel)) (by have := chg_len _ hyw true; rw [sizeLine_eq]; omega) (fun u h'' k'' hk' => ?_) (fun _ => by with_unfolding_all rfl) (fun _ => by with_unfolding_all rfl)
        rw [chg_tail _ hyw]
        refine ne_str ?_
        repeat walk_at "ms"
        exact ⟨rfl, kps hk'⟩
      · intro C z u h' g' d' k' os' m E' hz hp hC hn hm hk
        exact ldN hn hm ⟨⟨_, rfl⟩, kps fun _ _ e => e⟩ (by kernel_rfl!) (by kernel_rfl!) (by decide +kernel)
      · intro D h₅ k₅ ys hD hpl hS hns hk
        rw [List.map_id] at hS
        refine wpAny_execs_nil (wpAny_execs_nil ⟨rfl, h₅, _, rfl, ⟨_, _, D, ⟨hns, fun b o e => hk b o (Fr.neL F4 e) (F4.keep b o e), F4.above⟩, Cl.offL X4 hk, by walk_at "lk", by walk_at "lk", ⟨ys, hpl.isList, hS⟩, ?_, ?_, ?_⟩, ?_, ?_⟩)
        · rintro rfl; obtain ⟨o, q⟩ := hit; rw [ki o q] at hD; cases hD
        · rintro rfl; obtain ⟨o, _, _, q, _⟩ := F4.ns; rw [q] at hD; cases hD
        · rintro rfl; obtain ⟨o, q, _⟩ := C4; rw [q] at hD; cases hD
        · exact fun o q => hk _ o (Nat.ne_of_gt hltL) (ki o q)
        · exact fun o q => hk _ o (Nat.ne_of_lt hac) (ka o q)
    | false =>
      refine split_bool (fun hc => absurd hc (by decide +kernel)) (fun _ => ?_)
      refine wpAny_execs_cons ?_
      repeat walk_at "ms"
      refine ldCe C4 (by kernel_rfl!) ?_ (by kernel_rfl!) (by kernel_rfl!) (by decide +kernel)
      refine rSl1 (by have := chg_len _ hyw false; rw [sizeLine_eq]; omega) (fun u h₅ k₅ hk5 => ?_) (fun _ => by with_unfolding_all rfl) (fun _ => by with_unfolding_all rfl)
      rw [chg_tail _ hyw]
      have F5 := F4.kept hk5
      have X5 := X4.keeps hk5
      have C5 := C4.keeps hk5
      refine ldN F5.ns e1 ?_ (by kernel_rfl!) (by kernel_rfl!) (by decide +kernel)
      refine rNotIn (S4.keep hk5) ?_
      repeat walk_at "ms"
      cases hany : ((told.take i).foldl apply1 shelf).any (· == y') with
      | true =>
        refine split_bool (fun hc => absurd hc (by decide)) (fun _ => ?_)
        refine wpAny_execs_nil (wpAny_execs_nil (wpAny_execs_nil ⟨rfl, h₅, _, rfl, ⟨_, _, r, F5, X5, e1, e2, ?_, q1, hrL, hrc⟩, ?_, ?_⟩))
        · rw [show apply1 ((told.take i).foldl apply1 shelf) (false, y') = (told.take i).foldl apply1 shelf by simp [apply1, hany]]
          exact S4.keep hk5
        · exact fun o q => hk5 _ _ (ki o q)
        · exact fun o q => hk5 _ _ (ka o q)
      | false =>
        refine split_bool (fun _ => ?_) (fun hc => absurd hc (by decide))
        repeat walk_at "ms"
        refine ldN F5.ns e1 ?_ (by kernel_rfl!) (by kernel_rfl!) (by decide +kernel)
        repeat walk_at "ms"
        refine ldCe C5 (by kernel_rfl!) ?_ (by kernel_rfl!) (by kernel_rfl!) (by decide +kernel)
        refine rSl1 (by have := chg_len _ hyw false; rw [sizeLine_eq]; omega) (fun u h₆ k₆ hk6 => ?_) (fun _ => by with_unfolding_all rfl) (fun _ => by with_unfolding_all rfl)
        rw [chg_tail _ hyw]
        repeat walk_at "ms"
        refine ⟨by show 1 ≤ _; decide, NewL.mk fun r₂ h₇ hr hr2 hl7 k7 => ?_⟩
        refine rAddL (((S4.keep hk5).keep hk6).keep k7) (ts := [y']) ⟨_, ⟨_, hl7, rfl, 0, rfl⟩, .cons _ _ .nil⟩ (by rw [sizeLine_eq]; simp; omega) fun r₃ h₈ hr3 hr4 S8 k8 => ?_
        have kk : ∀ b o, h₄.get? b = some o → h₈.get? b = some o := fun b o q => k8 b o (k7 b o (hk6 b o (hk5 b o q)))
        have kn : ∀ b o, h₄.get? b = some o → r₃ ≠ b := fun b o q e => by subst e; rw [k7 _ _ (hk6 _ _ (hk5 _ _ q))] at hr3; cases hr3
        have nL : r₃ ≠ h.objs.size := by obtain ⟨o, _, _, q, _⟩ := F4.ns; exact kn _ _ q
        refine rStL (F4.kept kk) (X4.keeps kk) (fun h₉ k₉ F9 X9 kk9 => ?_) (by kernel_rfl!) (by kernel_rfl!)
        refine wpAny_execs_nil (wpAny_execs_nil (wpAny_execs_nil ⟨rfl, h₉, _, rfl, ⟨_, _, r₃, F9, X9, by walk_at "lk", by walk_at "lk", ?_, ?_, nL, ?_⟩, ?_, ?_⟩))
        · rw [show apply1 ((told.take i).foldl apply1 shelf) (false, y') = (told.take i).foldl apply1 shelf ++ [y'] by simp only [apply1, hany]; rfl]
          obtain ⟨vs, v1, v2⟩ := S8
          exact ⟨vs, isl v1 fun o q => kk9 _ o q nL, v2⟩
        · obtain ⟨o, q⟩ := hit; exact kn _ _ (ki o q)
        · obtain ⟨o, q, _⟩ := C4; exact kn _ _ q
        · exact fun o q => kk9 _ _ (kk _ _ (ki o q)) (Nat.ne_of_gt hltL)
        · exact fun o q => kk9 _ _ (kk _ _ (ka o q)) (Nat.ne_of_lt hac)
  · rintro h₄ k₄ ⟨m, cm, r, F4, X4, e1, e2, S4, -⟩
    have ok4 := x.fr F4
    rw [hul, List.take_length] at S4
    repeat walk_at "ms"
    refine ldN F4.ns e1 ?_ (by kernel_rfl!) (by kernel_rfl!) (by decide +kernel)
    repeat walk_at "ms"
    obtain ⟨vs, v1, v2⟩ := S4
    have := fold_len told shelf
    refine rSortS v1 v2 (by have := v2.length; omega) fun h₅ r' out ss' hr hr2 hl2 k2 hI hp hs => ?_
    exact ⟨⟨r', ss', rfl, ⟨out, hl2, hI⟩, hp, hs⟩, kps fun b o q => k2 _ _ (F4.keep _ _ q)⟩
end
section
variable {w : World} {A : Around} {h : Heap} {g : Array GenState} {d : Drawn} {k : Nat} {os : OsState} {E : Value → Shared → Prop} {env : Env} {pos : Pos}
/-- the loop of a for statement over a list that stays -/
theorem rForI {x : Str} {px : Pos} {body : List Stmt} {ax : Addr} {vs : List Value} {Q : Flow → Shared → Prop} (I : Nat → Heap → Prop)
    (hh : A.handled = none) (hl : h.IsList ax vs.toArray)
    (h0 : ∀ h', (∀ b o, h.get? b = some o → h'.get? b = some o) → h.objs.size < h'.objs.size → I 0 h')
    (hst : ∀ i h' h'', I i h' → (∀ b o, b ≠ h.objs.size → h'.get? b = some o → h''.get? b = some o) → I i h'')
    (step : ∀ i v h' k', vs[i]? = some v → I i h' → h'.IsList ax vs.toArray → (∃ o, h'.get? h.objs.size = some o) →
      wpAny (MM w) A (assign (.Name x px) env v) (fun _ s₂ => wpAny (MM w) A (execs body env) (fun f s₃ => f = .next ∧ ∃ h'' k'', s₃ = ⟨h'', g, d, k'', os⟩ ∧ I (i + 1) h'' ∧
        (∀ o, h'.get? h.objs.size = some o → h''.get? h.objs.size = some o) ∧ (∀ o, h'.get? ax = some o → h''.get? ax = some o)) (fun _ _ => False) s₂) (fun _ _ => False) ⟨h', g, d, k', os⟩)
    (HQ : ∀ h' k', I vs.length h' → Q .next ⟨h', g, d, k', os⟩) :
    wpAny (MM w) A (pyIter (.ref ax)) (fun it s₂ =>
      codeAny (MM w) A (.forLoop (.Name x px) it body [] env) (fun r s' => match r with | .ok f => Q f s' | .error e => cameBackBy (MM w) A env (fun _ _ => False) e s') s₂) E ⟨h, g, d, k, os⟩ := by
  refine wpAny_pyIter_list hl ?_
  have hax : ax ≠ h.objs.size := by obtain ⟨o, e, _⟩ := hl; exact Nat.ne_of_lt (Heap.lt_size e)
  refine codeAny_forLoop (fun n s' => ∃ h' k' i, s' = ⟨h', g, d, k', os⟩ ∧ h'.IsListIter h.objs.size ax i ∧ h'.IsList ax vs.toArray ∧ I i h' ∧ i ≤ vs.length ∧ n = vs.length + 1 - i) ?_ (vs.length + 1)
    ⟨_, k, 0, rfl, ⟨_, Heap.get?_push_size _ rfl, rfl, rfl⟩, hl.push _, h0 _ (fun _ _ e => Heap.get?_push_of_some _ e) (by rw [Heap.size_push]; exact Nat.lt_succ_self _), Nat.zero_le _, rfl⟩
  rintro n s' ⟨h', k', i, rfl, hit, hl', hI, hi, rfl⟩
  cases hv : vs[i]? with
  | none =>
    have hsz : i = vs.length := Nat.le_antisymm hi (by simpa using hv)
    refine wpAny_pyNext_list_end hh hit hl' (by simpa using hv) fun h₁ he₁ => wpAny_execs_nil ?_
    exact HQ _ _ (hst _ h' h₁ (hsz ▸ hI) fun b o hb e => he₁ b o hb e)
  | some v =>
    have hlt : i < vs.length := (List.getElem?_eq_some_iff.mp hv).1
    refine wpAny_pyNext_list_item hit hl' (by simpa using hv) fun h₁ hit₁ hs₁ => ?_
    have hI1 := hst i h' h₁ hI (fun b o hb e => hs₁.extBut b o hb e)
    refine wpAny_mono (step i v h₁ k' hv hI1 (hl'.extBut hs₁.extBut hax) (let ⟨o, q, _⟩ := hit₁; ⟨o, q⟩)) (fun _ s₂ h₂ => wpAny_mono h₂ (fun f s₃ h₃ => ?_) fun _ _ e => e.elim) fun _ _ e => e.elim
    obtain ⟨rfl, h₃', k₃, rfl, hI3, e1, e2⟩ := h₃
    refine ⟨vs.length + 1 - (i + 1), by omega, h₃', k₃, i + 1, rfl, ?_, isl (hl'.extBut hs₁.extBut hax) e2, hI3, hlt, rfl⟩
    obtain ⟨o, q, r⟩ := hit₁; exact ⟨o, e1 o q, r⟩
theorem paired_ints (f : Int → Int) : ∀ {l : List Value} {ns : List Int} {ys : List Value}, IntsAre l ns → Paired (fun v y => ∃ a t u, v = Value.int a t ∧ y = Value.int (f a) u) l ys → IntsAre ys (ns.map f)
  | [], [], ys, .nil, h => by cases h; exact .nil
  | _, _, ys, .cons (vs := l) a t hS, h => by
    cases h with
    | cons hF ht =>
      obtain ⟨a', t', u, e, rfl⟩ := hF
      cases e
      exact .cons _ _ (paired_ints f hS ht)
theorem ints_item : ∀ {vs : List Value} {ns : List Int}, IntsAre vs ns → ∀ (i : Nat) (v : Value), vs[i]? = some v → ∃ n t, v = .int n t ∧ ns[i]? = some n
  | _, _, .nil, i, v, h => by simp at h
  | _, _, .cons n t hs, 0, v, h => by simp at h; exact ⟨n, t, h.symm, rfl⟩
  | _, _, .cons n t hs, i + 1, v, h => by simpa using ints_item hs i v (by simpa using h)
/-- a comprehension over a list of ints, no test -/
theorem rCompI {elt iter : Expr} {x : Str} {px : Pos} {scope : Scope} {cl : List (Str × Addr)} {ns : List Int} {Q : Value → Shared → Prop} (f : Int → Int)
    (hh : A.handled = none) (hsc : scopeOk scope x = true) (hclos : closureFor scope env = pure cl)
    (hiter : wpAny (MM w) A (eval iter env) (fun v s₁ => ∃ ax vs h₁ k₁, v = .ref ax ∧ s₁ = ⟨h₁, g, d, k₁, os⟩ ∧ h₁.IsList ax vs.toArray ∧ IntsAre vs ns ∧ vs.length ≤ sizeLine ∧ (∀ b o, h.get? b = some o → h₁.get? b = some o)) E ⟨h, g, d, k, os⟩)
    (He : ∀ C y t h' g' d' k' os' m E', y ∈ ns → h'.Ns C m → m x = some (.int y t) →
      wpAny (MM w) A (eval elt (compEnvC scope cl C env)) (fun v s₄ => (∃ u, v = .int (f y) u) ∧ Keeps ⟨h', g', d', k', os'⟩ s₄) E' ⟨h', g', d', k', os'⟩)
    (HQ : ∀ D h' k' ys, h.get? D = none → h'.PlainList D ys.toArray → IntsAre ys (ns.map f) → (∀ b o, h.get? b = some o → h'.get? b = some o) → Q (.ref D) ⟨h', g, d, k', os⟩)
    (hs : ∀ x, foldedSetIterable iter env x = pure x) :
    wpAny (MM w) A (eval (.ListComp elt [⟨.Name x px, iter, [], 0⟩] scope pos) env) Q E ⟨h, g, d, k, os⟩ := by
  obtain ⟨c1, c2, c3, c4⟩ := scopeOk_spec hsc
  refine wpAny_ListComp_free (fun _ => true) (fun v y => ∃ a t u, v = Value.int a t ∧ y = Value.int (f a) u) hclos c1 c2 c3 c4 (wpAny_mono hiter (fun v s₁ hv => ?_) fun _ _ e => e) hs
  obtain ⟨ax, vs, h₁, k₁, rfl, rfl, hl, hI, hn, hk1⟩ := hv
  refine wpAny_pyIter_list hl ?_
  have hax : ax < h₁.objs.size := by obtain ⟨_, e, _⟩ := hl; exact Heap.lt_size e
  have notI : ∀ b, b < h₁.objs.size → b ∉ [h₁.objs.size] := fun b hb hm => by
    rcases List.mem_cons.mp hm with e | hm
    · exact Nat.lt_irrefl _ (e ▸ hb)
    · cases hm
  refine ⟨h₁.objs.size, [h₁.objs.size, ax], [h₁.objs.size], vs.toArray.size, (fun i v => vs.toArray[i]? = some v), _, rfl, Walks.list hh h₁.objs.size ax (Nat.ne_of_lt hax) vs.toArray, by simpa using hn,
    ⟨⟨_, Heap.get?_push_size _ rfl, rfl, rfl⟩, hl.push _⟩, ?_, ⟨?_, ?_⟩, ?_⟩
  · intro b hb
    show b < (h₁.push _).objs.size
    rw [Heap.size_push]
    rcases List.mem_cons.mp hb with rfl | hb
    · exact Nat.lt_succ_self _
    · rcases List.mem_cons.mp hb with rfl | hb
      · exact Nat.lt_succ_of_lt hax
      · cases hb
  · intro C i v s₃ m₃ E' hC hP hn hm hold _
    simp only [List.forIn_nil]
    obtain ⟨h', g', d', k', os'⟩ := s₃
    exact wpAny_pure ⟨rfl, kps fun _ _ e => e⟩
  · intro C i v s₃ m₃ E' hC hP hp hn hm hold _
    obtain ⟨y, t, rfl, hy⟩ := ints_item hI i v (by simpa using hP)
    obtain ⟨h', g', d', k', os'⟩ := s₃
    exact wpAny_mono (He C y t h' g' d' k' os' m₃ E' (List.mem_of_getElem? hy) hn hm) (fun v s₄ hv => ⟨let ⟨u, e⟩ := hv.1; ⟨y, t, u, rfl, e⟩, hv.2⟩) fun _ _ e => e
  · intro D h' tk ys vs' hnew hlD hplD hlen hP hF hk
    rw [list_of_places hlen hP] at hF
    have hF' : Paired (fun v y => ∃ a t u, v = Value.int a t ∧ y = Value.int (f a) u) vs ys.toList := by
      have := hF; rw [List.filter_eq_self.mpr (fun _ _ => rfl)] at this; simpa using this
    refine HQ D h' tk ys.toList ?_ (by simpa using hplD) (paired_ints f hI hF') (fun b o e => hk b o (notI b (Heap.lt_size (hk1 _ _ e))) (Heap.get?_push_of_some _ (hk1 _ _ e)))
    cases e : h.get? D with
    | none => rfl
    | some o' => rw [Heap.get?_push_of_some _ (hk1 _ _ e)] at hnew; cases hnew
end
section
variable {w : World} {A : Around} {h : Heap} {g : Array GenState} {d : Drawn} {k : Nat} {os : OsState} {E : Value → Shared → Prop}
theorem word_mem {n : Int} (h0 : 0 ≤ n) (h9 : n < 9) : word n ∈ words := by
  have : ∀ i : Fin 9, words.getD i "" ∈ words := by decide +kernel
  exact this ⟨n.toNat, by omega⟩
theorem Tab.new {w : World} {h : Heap} {r : Addr} (hr : (r == sysModules) = false) (hd : h.DictOf (PySem.strKind pw w) r []) : Tab w h r [] fun _ => 0 :=
  ⟨let ⟨ep, a⟩ := hd.dictAt; ⟨[], ep, a, rfl, by simp⟩, by simp, by simp, hr⟩
theorem Tab.store {h h' : Heap} {r : Addr} {ks : List Str} {b : Str → Int} {y : Str} {n : Int} {t : Tok} {kvs : List (Str × Value)} (T : Tab w h r ks b) (hy : y ∈ words) (h0 : 0 ≤ n) (h8 : n < 8)
    (e : kvs.map (·.1) = ks) (hv : ∀ x ∈ kvs, ∃ t, x.2 = .int (b x.1) t)
    (H : h'.DictOf (PySem.strKind pw w) r (stored kvs y (.int n t))) : ∃ ks' b', Tab w h' r ks' b' := by
  obtain ⟨ep', a'⟩ := H.dictAt
  refine ⟨_, fun z => if z = y then n else b z, ⟨⟨_, ep', a', rfl, ?_⟩, ?_, ?_, T.nm⟩⟩
  · intro x hx
    unfold stored at hx
    split at hx
    · obtain ⟨x', hx', rfl⟩ := List.mem_map.mp hx
      by_cases q : x'.1 = y
      · simp [q]
      · simp only [q, if_false]; exact hv x' hx'
    · rename_i hno
      rcases List.mem_append.mp hx with hx | hx
      · have : x.1 ≠ y := fun q => hno (by rw [List.any_eq_true]; exact ⟨x, hx, by simp [q]⟩)
        simp only [this, if_false]; exact hv x hx
      · rw [List.mem_singleton] at hx; subst hx; simp
  all_goals
    intro z hz
    obtain ⟨x, hx, rfl⟩ := List.mem_map.mp hz
    unfold stored at hx
    have old : ∀ x' ∈ kvs, x'.1 ∈ ks := fun x' hx' => e ▸ List.mem_map_of_mem hx'
    split at hx
    · obtain ⟨x', hx', rfl⟩ := List.mem_map.mp hx
      have o1 := T.rng _ (old _ hx')
      have o2 := T.wd _ (old _ hx')
      by_cases q : x'.1 = y
      · simp [q, h0, h8, hy]
      · simp only [q, if_false]; first | exact o1 | exact o2
    · rcases List.mem_append.mp hx with hx | hx
      · have o1 := T.rng _ (old _ hx)
        have o2 := T.wd _ (old _ hx)
        first
        | exact o2
        | by_cases q : x.1 = y
          · simp [q, h0, h8]
          · simp only [q, if_false]; exact o1
      · rw [List.mem_singleton] at hx; subst hx; simp [h0, h8, hy]
theorem table_spec {a : Addr} {vs : List Value} {ns : List Int} (hd : A.depth + 1 < recursionLimit) (x : Ok w h) (hh : A.handled = none) (ha : h.IsList a vs.toArray) (hI : IntsAre vs ns) (hl : ns.length ≤ 63) :
    wpAny (MM w) A (call (.ref 798) [.ref a]) (fun v s' => (∃ r ks b, v = .ref r ∧ Tab w s'.heap r ks b ∧ h.objs.size ≤ r) ∧ Keeps ⟨h, g, d, k, os⟩ s') E ⟨h, g, d, k, os⟩ := by
  refine callF' (nm := "_law_table") (dd := oSt pw 35) (pm := .str "law_oc0270_01" 1299) (c := 797) (binds := [("script", .ref a)]) x (a798 x) (c797 x) (by omega) (by kernel_rfl!) (by kernel_rfl!) (fun h₁ k₁ F => ?_) (by kernel_rfl!)
  refine wpAny_execs_cons ?_
  repeat walk_at "ms"
  refine wpAny_Dict_empty ?_
  have D2 : (h₁.push { cls := .type "dict", data := .dict #[] }).DictOf (PySem.strKind pw w) h₁.objs.size [] := Heap.DictOf.new h₁
  have hL : h.objs.size < h₁.objs.size := F.ns.lt
  have F2 := F.push { cls := .type "dict", data := .dict #[] }
  generalize h₁.push { cls := .type "dict", data := .dict #[] } = h₂ at D2 F2 ⊢
  generalize hr0 : h₁.objs.size = r0 at D2 hL ⊢
  have hr0L : r0 ≠ h.objs.size := Nat.ne_of_gt hL
  refine rSt F2 (fun h₃ k₃ F3 kk3 => ?_) (by kernel_rfl!) (by kernel_rfl!)
  have D3 : h₃.DictOf (PySem.strKind pw w) r0 [] := by
    obtain ⟨o, es, ep, ho, r⟩ := D2; exact ⟨o, es, ep, kk3 _ _ ho hr0L, r⟩
  have hsys : (r0 == sysModules) = false := by
    have h1 := Heap.lt_size (a798 x)
    have h2 : 798 < r0 := Nat.lt_trans h1 hL
    exact beq_eq_false_iff_ne.mpr fun q => by rw [q] at h2; exact absurd h2 (by decide)
  have T3 := Tab.new hsys D3
  clear F F2 D2 D3 kk3
  have ok3 := x.fr F3
  repeat walk_at "ms"
  refine wpAny_For ?_ (fun _ => by kernel_rfl!)
  repeat walk_at "ms"
  rename_i t1 _ t2 _ t3 _
  refine ⟨by show 3 ≤ _; decide, NewL.mk fun r h₄ hr hr2 hl4 k4 => ?_⟩
  have F4 := F3.kept k4
  refine rCompI (cl := []) (ns := ns.take 10) (fun n => n % 72) hh (by kernel_rfl!) (by kernel_rfl!) ?_ ?_ ?_ (fun _ => by kernel_rfl!)
  · repeat walk_at "ms"
    refine wpAny_Slice (wpAny_evalPart_none (wpAny_evalPart_some (rInt fun u k' => wpAny_evalPart_none ?_)))
    have hla : (h₄.push { cls := .type "slice", data := .fields #[.none, .int 10 u, .none] }).IsList a vs.toArray := (isl ha fun o q => F4.keep _ _ q).push _
    have hvl := hI.length
    refine subscriptTail_ops (Heap.IsList.typeIs (s := ⟨_, g, d, k', os⟩) hla) list_getitem_lookup (wpAny_getItem_list_slice (lo := none) (hi := some 10) (st := none) hla (Heap.IsSliceOf.new ..) .none (.int _ _) .none (by simp) ?_ (by simp; rw [sizeLine_eq]; omega)) (by with_unfolding_all rfl) (fun _ => by with_unfolding_all rfl)
    refine ⟨_, vs.take 10, _, _, rfl, rfl, ⟨_, Heap.get?_push_size _ rfl, rfl, 0, ?_⟩, hI.take 10, ?_, fun b o e => Heap.get?_push_of_some _ (Heap.get?_push_of_some _ e)⟩
    · show Data.seq (slicePick vs.toArray none (some ((10 : Nat) : Int)) none) 0 = _
      rw [slicePick_upto']
    · rw [List.length_take, sizeLine_eq]; omega
  · intro C y t h' g' d' k' os' m E' hy hn hm
    repeat walk_at "ms"
    refine ldN hn hm ?_ (by kernel_rfl!) (by kernel_rfl!) (by decide +kernel)
    repeat walk_at "ms"
    exact ⟨⟨_, rfl⟩, kps fun _ _ e => e⟩
  · intro D h₅ k₅ ys hD hpl hS hk5
    refine rAddV (vs := _) ⟨_, hk5 _ _ hl4, rfl, 0, rfl⟩ hpl.isList ?_ fun r₂ h₆ hr6 hr62 hl6 k6 => ?_
    · have := hS.length; rw [List.length_map, List.length_take] at this; rw [sizeLine_eq]; simp only [List.length_cons, List.length_nil]; omega
    · have hall : IntsAre ([Value.int 12 t1, Value.int 27 t2, Value.int 21 t3] ++ ys) ([12, 27, 21] ++ (ns.take 10).map (· % 72)) := .cons _ _ (.cons _ _ (.cons _ _ hS))
      generalize hus : [Value.int 12 t1, Value.int 27 t2, Value.int 21 t3] ++ ys = us at hall hl6
      have hrange : ∀ n ∈ [12, 27, 21] ++ (ns.take 10).map (· % 72), 0 ≤ n ∧ n < 72 := by
        intro n hn
        rcases List.mem_append.mp hn with hn | hn
        · simp only [List.mem_cons, List.not_mem_nil, or_false] at hn; omega
        · obtain ⟨z, _, rfl⟩ := List.mem_map.mp hn; omega
      have F6 := (F4.kept hk5).kept k6
      have T6 := ((T3.keep k4).keep hk5).keep k6
      have hlt6 : h.objs.size < h₆.objs.size := F6.ns.lt
      have hr06 : r0 ≠ h₆.objs.size := by obtain ⟨kvs, ep, q, _⟩ := T6.at'; exact Nat.ne_of_lt q.lt_size
      have hr26 : r₂ ≠ r0 := by
        rintro rfl
        obtain ⟨kvs, ep, ⟨o, es, q, _⟩, _⟩ := ((T3.keep k4).keep hk5).at'
        rw [q] at hr6; cases hr6
      have hr2L : r₂ ≠ h.objs.size := by
        rintro rfl
        obtain ⟨o, _, _, q, _⟩ := (F4.kept hk5).ns
        rw [q] at hr6; cases hr6
      refine rForI (fun i h' => ∃ m ks b, Fr h h.objs.size h' m ∧ m "table" = some (.ref r0) ∧ Tab w h' r0 ks b) hh hl6 ?_ ?_ ?_ ?_
      · intro h' hk hsz
        exact ⟨_, _, _, F6.kept hk, by walk_at "lk", T6.keep hk⟩
      · rintro i h' h'' ⟨m, ks, b, F', e1, T'⟩ hk
        refine ⟨m, ks, b, Fr.but F' hlt6 hk, e1, ⟨?_, T'.rng, T'.wd, T'.nm⟩⟩
        obtain ⟨kvs, ep, q, r⟩ := T'.at'
        exact ⟨kvs, ep, q.at' fun o => hk _ o hr06, r⟩
      · rintro i v h' k' hv ⟨m, ks, b, F', e1, T'⟩ hla ⟨oi, hit⟩
        obtain ⟨n, t, rfl, hn⟩ := ints_item hall i v hv
        obtain ⟨n0, n72⟩ := hrange n (List.mem_of_getElem? hn)
        refine wpAny_assign_Name (rSt F' (fun h₇ k₇ F7 kk7 => ?_) (by kernel_rfl!) (by kernel_rfl!))
        have ok7 := x.fr F7
        have T7 : Tab w h₇ r0 ks b := ⟨(let ⟨kvs, ep, q, r⟩ := T'.at'; ⟨kvs, ep, q.at' fun o e => kk7 _ o e hr0L, r⟩), T'.rng, T'.wd, T'.nm⟩
        have ki : h₇.get? h₆.objs.size = some oi := kk7 _ _ hit (Nat.ne_of_gt hlt6)
        have ka : ∀ o, h'.get? r₂ = some o → h₇.get? r₂ = some o := fun o q => kk7 _ o q hr2L
        clear F' T' kk7
        refine wpAny_execs_cons ?_
        refine wpAny_Assign_Subscript ?_ (by kernel_rfl!)
        repeat walk_at "ms"
        refine cwF (ob793 pw w.params) (by with_unfolding_all rfl) ?_
        repeat walk_at "ms"
        refine ⟨⟨a793 ok7, rfl⟩, ?_⟩
        refine wpAny_mono (word_spec (by show A.depth + 1 < _; omega) ok7 (by omega) (by omega)) (fun v s' hv => ?_) (fun _ _ e => e)
        obtain ⟨⟨u, rfl⟩, h₈, k₈, rfl, hk8⟩ := hv
        have T8 := T7.keep hk8
        obtain ⟨kvs, ep, q8, e8, v8⟩ := id T8.at'
        refine wpAny_setItem_pairs (knd := PySem.strKind pw w) (k := word (n / 8)) (by simp [PySem.strKind, Value.isStrOf]) q8.dictOf (fun h₉ hd9 hs9 => ?_) (by have := T8.len; rw [← e8, List.length_map] at this; rw [sizeLine_eq]; omega)
        obtain ⟨ks', b', T9⟩ := Tab.store T8 (word_mem (by omega : 0 ≤ n / 8) (by omega)) (by omega) (by omega) e8 v8 hd9
        have F9 : Fr h h.objs.size h₉ _ := Fr.but (F7.kept hk8) hL fun b o ne e => (hs9.2 b ne).trans e
        refine wpAny_execs_nil ⟨rfl, h₉, _, rfl, ⟨_, ks', b', F9, by walk_at "lk", T9⟩, ?_, ?_⟩
        · intro o q
          rw [hit] at q; cases q
          exact (hs9.2 _ (Ne.symm hr06)).trans (hk8 _ _ ki)
        · intro o q
          exact (hs9.2 _ hr26).trans (hk8 _ _ (ka o q))
      · rintro h₇ k₇ ⟨m, ks, b, F7, e1, T7⟩
        repeat walk_at "ms"
        exact ⟨⟨r0, ks, b, rfl, T7, Nat.le_of_lt hL⟩, kps F7.keep⟩
end
/-! ## An exception on its way: what it does to the frames -/
abbrev fSet (fs : List Env) : List Addr := fs.filterMap (·.frame)
/-- what is no record goes on, but for the slots of the frames -/
def KN (S : List Addr) (h h' : Heap) : Prop := ∀ b o, h.get? b = some o → (∀ vs, o.data ≠ .fields vs) → (b ∉ S → h'.get? b = some o) ∧ ∃ sl, h'.get? b = some { o with slots := sl }
theorem KN.refl (S : List Addr) (h : Heap) : KN S h h := fun _ o e _ => ⟨fun _ => e, o.slots, e⟩
theorem KN.trans {S : List Addr} {h₁ h₂ h₃ : Heap} (x : KN S h₁ h₂) (y : KN S h₂ h₃) : KN S h₁ h₃ := fun b o e n => by
  obtain ⟨x1, sl, x2⟩ := x b o e n
  obtain ⟨y1, sl2, y2⟩ := y b _ x2 n
  exact ⟨fun hb => (y b o (x1 hb) n).1 hb, sl2, y2⟩
theorem KN.keep {S : List Addr} {h h' : Heap} (k : ∀ b o, h.get? b = some o → h'.get? b = some o) : KN S h h' := fun b o e _ => ⟨fun _ => k b o e, o.slots, k b o e⟩
theorem KN.mono {S T : List Addr} {h h' : Heap} (x : KN S h h') (hs : ∀ b, b ∈ S → b ∈ T) : KN T h h' := fun b o e n => ⟨fun hb => (x b o e n).1 fun q => hb (hs b q), (x b o e n).2⟩
theorem KN.ns {S : List Addr} {h h' : Heap} {a : Addr} {m : Str → Option Value} (x : KN S h h') (hn : h.Ns a m) : h'.Ns a m := by
  obtain ⟨o, es, ep, ho, hd, r⟩ := hn
  obtain ⟨_, sl, hs⟩ := x a o ho (by rw [hd]; intro _ q; cases q)
  exact ⟨_, es, ep, hs, hd, r⟩
theorem KN.isList {S : List Addr} {h h' : Heap} {a : Addr} {vs : Array Value} (x : KN S h h') (hl : h.IsList a vs) : h'.IsList a vs := by
  obtain ⟨o, ho, hc, n, hd⟩ := hl
  obtain ⟨_, sl, hs⟩ := x a o ho (by rw [hd]; intro _ q; cases q)
  exact ⟨_, hs, hc, n, hd⟩
theorem KN.plain {S : List Addr} {h h' : Heap} {a : Addr} {vs : Array Value} (x : KN S h h') (hl : h.PlainList a vs) (ha : a ∉ S) : h'.PlainList a vs := by
  obtain ⟨n, e⟩ := hl
  exact ⟨n, (x a _ e (by intro _ q; cases q)).1 ha⟩
theorem KN.cell {S : List Addr} {h h' : Heap} {a : Addr} {v : Option Value} (x : KN S h h') (hl : h.IsCell a v) : h'.IsCell a v := by
  obtain ⟨o, ho, hd⟩ := hl
  obtain ⟨_, sl, hs⟩ := x a o ho (by rw [hd]; intro _ q; cases q)
  exact ⟨_, hs, hd⟩
theorem KN.sl {S : List Addr} {h h' : Heap} {a : Addr} {ss : List Str} (x : KN S h h') (hl : SL h a ss) : SL h' a ss := let ⟨vs, a, b⟩ := hl; ⟨vs, x.isList a, b⟩
theorem KN.frames {S : List Addr} {h h' base : Heap} {fs : List Env} (x : KN S h h') (hl : h.FunFrames base fs) : h'.FunFrames base fs :=
  hl.of_keeps fun b o ho hn => let ⟨_, _, e⟩ := x b o ho hn; ⟨_, e, rfl⟩
/-- an exception just made -/
def Nw (base h : Heap) (e : Addr) (cls c2 : Value) : Prop :=
  base.get? e = none ∧ ∃ oe vs, h.get? e = some oe ∧ oe.cls = cls ∧ oe.data = .fields vs ∧ vs[2]? = some c2 ∧ vs[1]? = some .none
/-- an exception with a traceback -/
def Tr (base h : Heap) (e : Addr) (cls c2 fl : Value) : Prop :=
  base.get? e = none ∧ ∃ oe vs T oT ts, h.get? e = some oe ∧ oe.cls = cls ∧ oe.data = .fields vs ∧ vs[2]? = some c2 ∧ vs[1]? = some (.ref T) ∧ T ≠ e ∧ base.get? T = none ∧ h.get? T = some oT ∧ oT.data = .fields ts ∧ ts[3]? = some fl
theorem Tr.typeIs {base : Heap} {s : Shared} {e : Addr} {X : String} {c2 fl : Value} (x : Tr base s.heap e (.type X) c2 fl) : s.TypeIs (.ref e) X := by
  obtain ⟨_, oe, vs, T, oT, ts, he, hc, _⟩ := x
  exact ⟨oe, he, hc⟩
/-- a store that touches no record -/
theorem Tr.off {base h h' : Heap} {e : Addr} {cls c2 fl : Value} (x : Tr base h e cls c2 fl) (k : ∀ b o vs, h.get? b = some o → o.data = .fields vs → h'.get? b = some o) : Tr base h' e cls c2 fl := by
  obtain ⟨hen, oe, vs, T, oT, ts, he, hc, hd, h2, h1, hTe, hnT, hT, hdT, h3⟩ := x
  exact ⟨hen, oe, vs, T, oT, ts, k _ _ _ he hd, hc, hd, h2, h1, hTe, hnT, k _ _ _ hT hdT, hdT, h3⟩
section
variable {M : Model} {A : Around} {E : Value → Shared → Prop} {s : Shared} {env : Env} {outer : List Env} {L e : Addr} {base : Heap} {cls c2 fl : Value}
theorem note_first {Q : Unit → Shared → Prop} (hfr : A.frames = some (env :: outer)) (hl : s.heap.FunFrames base (env :: outer)) (hf : env.frame = some L) (hst : base.StaysIn s.heap) (x : Nw base s.heap e cls c2)
    (H : ∀ h', KN (fSet (env :: outer)) s.heap h' → base.StaysIn h' → Tr base h' e cls c2 (rawInt L) → Q () { s with heap := h' }) : wpAny M A (noteFrame (.ref e) env) Q E s := by
  obtain ⟨hen, oe, vs, he, hc, hd, h2, h1⟩ := x
  have hsz : 1 < vs.size := (Array.getElem?_eq_some_iff.mp h1).1
  have hene : e ∉ fSet (env :: outer) := fun hm => by
    obtain ⟨_, o, ho, hnf⟩ := hl.mem hm
    rw [he] at ho; injection ho with ho; subst ho; exact hnf vs hd
  unfold noteFrame
  simp only [hf]
  refine wpAny_bind (wpAny_field he hd h1 ?_)
  rw [if_neg (by decide)]
  refine wpAny_bind (wpAny_frameOf_fun hfr hl hf fun h₁ hs₁ => ?_)
  refine wpAny_bind (wpAny_entryPlaceOf fun pl hpl => ?_)
  unfold EntryCells.newEntry newFields
  refine wpAny_bind (wpAny_newObj_type ?_ (hpl.sizeOk5 _ _ _ _ _))
  have he₁ : h₁.get? e = some oe := (hs₁.2.1 e hene).trans he
  have kb₁ : base.StaysIn h₁ := fun b o hbo => (hs₁.2.1 b fun hm => by rw [(hl.mem hm).1] at hbo; cases hbo).trans (hst b o hbo)
  have he₂ := Heap.get?_push_of_some (h := h₁) { cls := .type "traceback", dict := none, data := .fields ([Value.none, .ref L, .none, rawInt L, .none] ++ (if pl.isEmpty then List.replicate 6 Value.none else pl)).toArray } he₁
  refine wpAny_setField he₂ hd hsz (H _ ?_ ?_ ?_)
  all_goals
    have hTe : h₁.objs.size ≠ e := Nat.ne_of_gt (Heap.lt_size he₁)
    have hd₃ := Obj.data_mapFields hd (·.setIfInBounds 1 (Value.ref h₁.objs.size))
    have he₃ := Heap.get?_update_self (Obj.mapFields (·.setIfInBounds 1 (Value.ref h₁.objs.size))) he₂ (Obj.isFreed_of_fields hd₃)
    have hT₃ := (Heap.get?_update_other (h₁.push { cls := .type "traceback", dict := none, data := .fields ([Value.none, .ref L, .none, rawInt L, .none] ++ (if pl.isEmpty then List.replicate 6 Value.none else pl)).toArray })
      (Obj.mapFields (·.setIfInBounds 1 (Value.ref h₁.objs.size))) (Ne.symm hTe)).trans (Heap.get?_push_size h₁ rfl)
    have keep : ∀ b o, b ≠ e → h₁.get? b = some o →
        ((h₁.push { cls := .type "traceback", dict := none, data := .fields ([Value.none, .ref L, .none, rawInt L, .none] ++ (if pl.isEmpty then List.replicate 6 Value.none else pl)).toArray }).update e (Obj.mapFields (·.setIfInBounds 1 (Value.ref h₁.objs.size)))).get? b = some o :=
      fun b o hbe hb => by
        rw [Heap.get?_update_other _ _ (Ne.symm hbe)]
        exact Heap.get?_push_of_some _ hb
  · intro b o hb hn
    have hbe : b ≠ e := fun q => by rw [q, he] at hb; injection hb with hb; subst hb; exact hn vs hd
    obtain ⟨sl2, q2⟩ := hs₁.2.2 b _ hb
    exact ⟨fun n => keep b o hbe ((hs₁.2.1 b n).trans hb), sl2, keep b _ hbe q2⟩
  · exact fun b o hb => keep b o (fun q => by rw [q, hen] at hb; cases hb) (kb₁ b o hb)
  · refine ⟨hen, _, _, h₁.objs.size, _, _, he₃, (Obj.cls_mapFields _ _).trans hc, hd₃, ?_, by simp [hsz], hTe, kb₁.fresh, hT₃, rfl, ?_⟩
    · rw [Array.getElem?_setIfInBounds_ne (by decide)]; exact h2
    · first | (simp; done) | (rcases hpl with rfl | ⟨_, _, _, _, _, _, _, rfl⟩ <;> simp)
theorem note_again {Q : Unit → Shared → Prop} (hf : env.frame = some L) (x : Tr base s.heap e cls c2 (rawInt L)) (H : Q () s) : wpAny M A (noteFrame (.ref e) env) Q E s := by
  obtain ⟨hen, oe, vs, T, oT, ts, he, hcls, hd, h2, h1, hTe, hnT, hT, hdT, h3⟩ := x
  unfold noteFrame
  simp only [hf]
  refine wpAny_bind (wpAny_field he hd h1 ?_)
  rw [if_pos (show (Value.ref T != Value.none) = true from by simp)]
  refine wpAny_bind (wpAny_field hT hdT h3 ?_)
  rw [if_pos (show (rawInt L == rawInt L) = true from by simp)]
  exact wpAny_pure H
theorem flight {Q : Unit → Shared → Prop} {S : List Addr} {fr : Option Addr} (hst : base.StaysIn s.heap) (x : Tr base s.heap e cls c2 fl)
    (H : ∀ h', KN S s.heap h' → base.StaysIn h' → Tr base h' e cls c2 (fr.elim .none fun f => rawInt f) → Q () { s with heap := h' }) : wpAny M A (setFlight (.ref e) fr) Q E s := by
  obtain ⟨hen, oe, vs, T, oT, ts, he, hcls, hd, h2, h1, hTe, hnT, hT, hdT, h3⟩ := x
  have hsz3 : 3 < ts.size := (Array.getElem?_eq_some_iff.mp h3).1
  have other : ∀ b, b ≠ T → (s.heap.update T (Obj.mapFields (·.setIfInBounds 3 (fr.elim Value.none fun f => rawInt f)))).get? b = s.heap.get? b := fun b hb => Heap.get?_update_other _ _ (Ne.symm hb)
  unfold setFlight
  refine wpAny_bind (wpAny_field he hd h1 ?_)
  rw [if_pos (show (Value.ref T != Value.none) = true from by simp)]
  refine wpAny_setField hT hdT hsz3 (H _ ?_ ?_ ?_)
  · intro b o hb hn
    have hbT : b ≠ T := fun q => by rw [q, hT] at hb; injection hb with hb; subst hb; exact hn ts hdT
    exact ⟨fun _ => (other b hbT).trans hb, o.slots, (other b hbT).trans hb⟩
  · exact fun b o hb => (other b fun q => by rw [q, hnT] at hb; cases hb).trans (hst b o hb)
  · exact ⟨hen, oe, vs, T, _, _, (other e (Ne.symm hTe)).trans he, hcls, hd, h2, h1, hTe, hnT,
      Heap.get?_update_self _ hT (Obj.isFreed_of_fields (Obj.data_mapFields hdT _)), Obj.data_mapFields hdT _, by simp [hsz3]⟩
theorem came_back {S : List Addr} (hf : env.frame = some L) (hst : base.StaysIn s.heap) (x : Tr base s.heap e cls c2 fl)
    (H : ∀ h', KN S s.heap h' → base.StaysIn h' → Tr base h' e cls c2 (rawInt L) → E (.ref e) { s with heap := h' }) : cameBackBy M A env E (.ref e) s := by
  unfold cameBackBy
  have x' := x
  obtain ⟨hen, oe, vs, T, oT, ts, he, hcls, hd, h2, h1, hTe, hnT, hT, hdT, h3⟩ := x'
  refine wpAny_bind (wpAny_field he hd h1 ?_)
  rw [if_neg (show ¬ ((Value.ref T == Value.none) = true) from by simp)]
  refine flight (S := S) hst x fun h' k1 k2 q => ?_
  rw [hf] at q
  exact H h' k1 k2 q
theorem pass_on {α : Type} {what : String} {Q : α → Shared → Prop} {S : List Addr} (hf : env.frame = some L) (hst : base.StaysIn s.heap) (x : Tr base s.heap e cls c2 fl)
    (H : ∀ h', KN S s.heap h' → base.StaysIn h' → Tr base h' e cls c2 (rawInt L) → E (.ref e) { s with heap := h' }) : wpAny M A (PySem.passOn what (.ref e) env : Sem α) Q E s := by
  unfold PySem.passOn
  have x' := x
  obtain ⟨hen, oe, vs, T, oT, ts, he, hcls, hd, h2, h1, hTe, hnT, hT, hdT, h3⟩ := x'
  refine wpAny_bind (wpAny_field he hd h1 ?_)
  rw [if_neg (show ¬ ((Value.ref T == Value.none) = true) from by simp)]
  refine wpAny_bind (flight (S := S) hst x fun h' k1 k2 q => ?_)
  rw [hf] at q
  exact wpAny_throw (H h' k1 k2 q)
end
section
variable {prog : Program} {w : World} {A : Around} {E : Value → Shared → Prop} {s : Shared}
theorem entry_unchain : entryFor table "proto.unchain" = some Builtin.«proto.unchain» := entryFor_of_tree (by kernel_rfl)
/-- what is new of an exception raised while another is handled -/
structure NewUnder (h h' : Heap) (e : Addr) (cls : String) (c2 : Value) : Prop where
  keeps : ∀ b o, h.get? b = some o → h'.get? b = some o
  new : h.get? e = none
  there : ∃ ob vs, h'.get? e = some ob ∧ ob.cls = .type cls ∧ ob.data = .fields vs ∧ vs[2]? = some c2 ∧ vs[1]? = some .none
theorem raiseNew_under {α : Type} {e e1 : Addr} {oe o1 : Obj} {vs vs1 : Array Value} {Q : α → Shared → Prop} (hh : A.handled = some (.ref e1)) (he1 : s.heap.get? e1 = some o1) (hd1 : o1.data = .fields vs1) (h2 : vs1[2]? = some .none)
    (hne : e1 ≠ e) (he : s.heap.get? e = some oe) (hd : oe.data = .fields vs) (hsz : 2 < vs.size)
    (H : E (.ref e) { s with heap := s.heap.update e (Obj.mapFields (·.setIfInBounds 2 (.ref e1))) }) : wpAny (model prog w) A (raiseNew (.ref e) : Sem α) Q E s := by
  unfold raiseNew
  refine wpAny_bind (wpAny_handled ?_)
  rw [hh]
  have hne' : (Value.ref e1 != Value.ref e) = true := by simp [hne]
  simp only [hne', if_true]
  refine wpAny_bind (wpAny_holding (wpAny_runValue (codeAny_builtin entry_unchain ?_)))
  unfold Builtin.«proto.unchain»
  refine wpAny_bind (wpAny_field he1 hd1 h2 ?_)
  rw [if_pos (show (Value.none == Value.none) = true by decide)]
  refine wpAny_bind (wpAny_pure (wpAny_pure ?_))
  show wpAny _ _ (updateField e 2 (.ref e1) >>= fun _ => throw (.ref e)) _ _ s
  refine wpAny_bind ?_
  unfold updateField
  refine wpAny_bind (wpAny_load he ?_)
  rw [hd]
  simp only [hsz, if_true]
  exact wpAny_update he (wpAny_throw H)
theorem raise_under {α : Type} {cls msg : String} {e1 : Addr} {o1 : Obj} {vs1 : Array Value} {Q : α → Shared → Prop} (hp : PlainExc cls) (hh : A.handled = some (.ref e1)) (he1 : s.heap.get? e1 = some o1) (hd1 : o1.data = .fields vs1) (h2 : vs1[2]? = some .none)
    (h : ∀ h' tk e, NewUnder s.heap h' e cls (.ref e1) → E (.ref e) { s with heap := h', toks := tk }) : wpAny (model prog w) A (raiseErrorWords cls msg : Sem α) Q E s := by
  unfold raiseErrorWords
  refine wpAny_bind (wpAny_mkText (wpAny_bind ?_))
  unfold newExc newTuple
  refine wpAny_bind (wpAny_newObj_type ?_)
  refine wpAny_bind (m := firstArgMember _ _) (wpAny_of_eq (a := Value.none) (by simp only [firstArgMember, hp.first]; rfl) ?_)
  rw [hp.own]
  refine wpAny_newObj_type ?_
  have hlt := Heap.lt_size he1
  refine raiseNew_under hh (Heap.get?_push_of_some _ (Heap.get?_push_of_some _ he1)) hd1 h2 (by rw [Heap.size_push]; exact Nat.ne_of_lt (Nat.lt_succ_of_lt hlt)) (Heap.get?_push_size _ rfl) rfl (by simp) ?_
  have hgo := Heap.get?_push_size (h := s.heap.push { cls := .type "tuple", data := .seq [Value.str msg s.toks].toArray }) (o := { cls := .type cls, data := .fields #[.ref s.heap.objs.size, .none, .none, .none, .bool false, .none] }) rfl
  refine h _ _ _ ⟨fun b o hb => ?_, Heap.get?_none_of_le (by simp), _, _, Heap.get?_update_self _ (Heap.get?_push_size _ rfl) rfl, rfl, rfl, rfl, rfl⟩
  rw [Heap.get?_update_other _ _ (by rw [Heap.size_push]; exact Nat.ne_of_gt (Nat.lt_succ_of_lt (Heap.lt_size hb)))]
  exact Heap.get?_push_of_some _ (Heap.get?_push_of_some _ hb)
theorem getItem_out_under {l : Addr} {items : Array Value} {k : Int} {t : Tok} {e1 : Addr} {o1 : Obj} {vs1 : Array Value} {Q : Value → Shared → Prop} (hh : A.handled = some (.ref e1)) (he1 : s.heap.get? e1 = some o1) (hd1 : o1.data = .fields vs1) (h2 : vs1[2]? = some .none)
    (hl : s.heap.IsList l items) (hout : (items.size : Int) ≤ k) (hlo : -(2 ^ 63) ≤ k) (hhi : k < 2 ^ 63)
    (hE : ∀ h' tk e, NewUnder s.heap h' e "IndexError" (.ref e1) → E (.ref e) { s with heap := h', toks := tk }) :
    wpAny (model prog w) A (getItem (.ref l) (.int k t)) Q E s := by
  obtain ⟨o, ho, hc, ne, hd⟩ := id hl
  unfold getItem
  try with_reducible refine wpAny_holding ?_
  refine wpAny_bind (wpAny_sequenceKey hl.typeIs (by decide) ?_)
  refine wpAny_bind (wpAny_callSpecial?_slot (name := Str.ofString "__getitem__") hl.typeIs slot_list_getitem
    (wpAny_call_entry slot_list_getitem hl.typeIs entry_list_getitem ?_ (args_list_getitem _ _)))
  show wpAny _ _ (Builtin.List.listSubscript? (.int k t) >>= _) _ _ s
  refine wpAny_bind (wpAny_listSubscript_int (fitsIndex_both hlo hhi) ?_)
  clear hlo hhi
  cases k with
  | ofNat j =>
    have hx : items[j]? = none := Array.getElem?_eq_none (by have : (items.size : Int) ≤ (j : Int) := hout; omega)
    show wpAny _ _ ((seqItemAt l j >>= fun r => pure (r.map (j, ·))) >>= _) _ _ s
    refine wpAny_bind (wpAny_bind (wpAny_seqItemAt ho hd (wpAny_pure ?_)))
    rw [hx]
    exact wpAny_bind (wpAny_rule (wpAny_bind (raise_under plainExc_IndexError (A := A.in1) hh he1 hd1 h2 hE)))
  | negSucc j => exact absurd hout (by have := Int.negSucc_lt_zero j; omega)
end
abbrev IE : Value := .type "IndexError"
/-- what is being handled, as an exception made now would note it -/
def Hand (A : Around) (base h : Heap) (c2 : Value) : Prop := (A.handled = none ∧ c2 = .none) ∨ ∃ e1 fl, A.handled = some (.ref e1) ∧ Tr base h e1 IE .none fl ∧ c2 = .ref e1
section
variable {w : World} {A : Around} {h : Heap} {g : Array GenState} {d : Drawn} {k : Nat} {os : OsState} {E : Value → Shared → Prop} {base : Heap} {env : Env} {outer : List Env} {L : Addr} {c2 : Value}
theorem stays_none {h : Heap} {e : Addr} (hst : base.StaysIn h) (he : h.get? e = none) : base.get? e = none := by
  cases q : base.get? e with
  | none => rfl
  | some o => rw [hst _ _ q] at he; cases he
/-- an item of a list that is not there -/
theorem item_out {l : Addr} {vs : List Value} {i : Nat} {t : Tok} {value slice : Expr} {Q : Value → Shared → Prop} (hst : base.StaysIn h) (hh : Hand A base h c2) (hl : h.IsList l vs.toArray) (hi : vs.length ≤ i) (hfit : (i : Int) < 2 ^ 63)
    (HE : ∀ h' k' e, (∀ b o, h.get? b = some o → h'.get? b = some o) → base.StaysIn h' → Nw base h' e IE c2 → E (.ref e) ⟨h', g, d, k', os⟩)
    (hs : subscripted slice false (.ref l) (.int i t) = operate [.ref l, .int i t] (getItem (.ref l) (.int i t))) :
    wpAny (MM w) A (subscriptTail value slice (.ref l) (.int i t)) Q E ⟨h, g, d, k, os⟩ := by
  refine tail_any (Heap.IsList.typeIs (s := ⟨h, g, d, k, os⟩) hl) slot_list_getitem.lookup ?_ hs
  rcases hh with ⟨hh, rfl⟩ | ⟨e1, fl, hh, tr, rfl⟩
  · refine wpAny_getItem_list_out hh hl (.inr (by simpa using hi)) (by omega) hfit fun h' tk e x => ?_
    obtain ⟨ob, t, he, hc, hd⟩ := x.there
    exact HE h' tk e x.keeps (fun b o q => x.keeps b o (hst b o q)) ⟨stays_none hst x.new, ob, _, he, hc, hd, rfl, rfl⟩
  · obtain ⟨_, o1, vs1, _, _, _, he1, _, hd1, h21, _⟩ := tr
    refine getItem_out_under hh he1 hd1 h21 hl (by simpa using hi) (by omega) hfit fun h' tk e x => ?_
    obtain ⟨ob, vs, he, hc, hd, q2, q1⟩ := x.there
    exact HE h' tk e x.keeps (fun b o q => x.keeps b o (hst b o q)) ⟨stays_none hst x.new, ob, vs, he, hc, hd, q2, q1⟩
/-- the inner loop: it ends at once, or it raises at the end of the list -/
theorem skipW {name : Str} {scope : Scope} {fa : Addr} {cd : Value} {m : Str → Option Value} {xs n v : Str} {p1 p2 p3 p4 p5 p6 : Pos} {body : List Stmt} {l : Addr} {ss : List Str} {i : Nat} {t u : Tok} {y : Str} {Q : Flow → Shared → Prop}
    (hfr : A.frames = some (envOf name scope L fa cd :: outer)) (hl : h.FunFrames base (envOf name scope L fa cd :: outer)) (hst : base.StaysIn h) (hh : Hand A base h c2)
    (F : Fr base L h m) (e1 : m xs = some (.ref l)) (e2 : m n = some (.int i t)) (e3 : m v = some (.str y u)) (hS : SL h l ss) (hlen : ss.length ≤ 63) (hi : i ≤ 63)
    (hk : scope.kind = .function) (k1 : (envOf name scope L fa cd).kindOf xs = some .local) (k2 : (envOf name scope L fa cd).kindOf n = some .local) (k3 : (envOf name scope L fa cd).kindOf v = some .local)
    (d1 : (xs == ("__debug__" : Str)) = false) (d2 : (n == ("__debug__" : Str)) = false) (d3 : (v == ("__debug__" : Str)) = false)
    (hne : ∀ z, ss[i]? = some z → z ≠ y)
    (Hok : ∀ k', i < ss.length → Q .next ⟨h, g, d, k', os⟩)
    (HE : ∀ h' k' e, ss.length ≤ i → KN (fSet (envOf name scope L fa cd :: outer)) h h' → base.StaysIn h' → Tr base h' e IE c2 (rawInt L) → E (.ref e) ⟨h', g, d, k', os⟩)
    (hs : ∀ r, subscripted (.Name n p2) false (.ref l) r = operate [.ref l, r] (getItem (.ref l) r)) :
    wpAny (MM w) A (exec (.While (.Compare (.Subscript (.Name xs p1) (.Name n p2) p3) [.Eq] [.Name v p4] p5) body [] p6) (envOf name scope L fa cd)) Q E ⟨h, g, d, k, os⟩ := by
  obtain ⟨vs, v1, v2⟩ := hS
  have vl := v2.length
  refine wpAny_While ?_
  refine codeAny_whileLoop (fun j s' => s' = ⟨h, g, d, k, os⟩) ?_ 0 rfl
  rintro _ _ rfl
  refine wpAny_isTrue_Compare1 ?_ rfl
  refine Subscript_ ?_
  refine ld F e1 ?_ hk k1 d1
  refine ld F e2 ?_ hk k2 d2
  by_cases hlt : i < ss.length
  · obtain ⟨z, hz⟩ : ∃ z, ss[i]? = some z := ⟨_, List.getElem?_eq_getElem hlt⟩
    obtain ⟨tz, hzv⟩ := v2.get i z hz
    refine itL v1 (by omega) (by omega) (by simpa using hzv) ?_ (hs _)
    refine ld F e3 ?_ hk k3 d3
    refine eq_str ?_
    refine wpAny_truthy_bool ?_
    have hzy := hne z hz
    rw [show (z == y) = false from beq_eq_false_iff_ne.mpr hzy]
    exact wpAny_execs_nil (Hok _ hlt)
  · refine item_out hst hh v1 (by omega) (by omega) (fun h₂ k₂ e kk st nw => ?_) (hs _)
    refine note_first (base := base) hfr (hl.of_keeps fun b o q _ => ⟨o, kk b o q, rfl⟩) rfl st nw fun h₃ kn st3 tr => ?_
    refine came_back (S := fSet (envOf name scope L fa cd :: outer)) (s := ⟨h₃, g, d, k₂, os⟩) rfl st3 tr fun h₄ kn4 st4 tr4 => ?_
    exact HE h₄ k₂ e (by omega) ((KN.keep kk).trans (kn.trans kn4)) st4 tr4
end
section
variable {w : World} {A : Around} {h : Heap} {g : Array GenState} {d : Drawn} {k : Nat} {os : OsState} {E : Value → Shared → Prop} {base : Heap} {outer : List Env} {L : Addr} {c2 : Value}
theorem caught {name : Str} {scope : Scope} {fa : Addr} {cd : Value} {e : Addr} {np pos : Pos} {b₀ : Stmt} {suite : List Stmt} {Q : Flow → Shared → Prop} (ok : Ok w base)
    (hfr : A.frames = some (envOf name scope L fa cd :: outer)) (hl : h.FunFrames base (envOf name scope L fa cd :: outer)) (hst : base.StaysIn h)
    (hx : Nw base h e IE c2 ∨ Tr base h e IE c2 (rawInt L))
    (H : ∀ h', KN (fSet (envOf name scope L fa cd :: outer)) h h' → base.StaysIn h' → wpAny (MM w) (A.mark (some (.ref e))) (execs (b₀ :: suite) (envOf name scope L fa cd)) Q (fun _ _ => False) ⟨h', g, d, k, os⟩)
    (hk : scope.kind = .function) (hkk : (envOf name scope L fa cd).kindOf "IndexError" = some .globalImplicit) :
    wpAny (MM w) A (noteFrame (.ref e) (envOf name scope L fa cd)) (fun _ s₂ => wpAny (MM w) A (setFlight (.ref e) none) (fun _ s₃ => wpAny (MM w) A (handleBy (.ref e) (envOf name scope L fa cd) [.ExceptHandler (some (.Name "IndexError" np)) none (b₀ :: suite) pos]) Q E s₃) E s₂) E ⟨h, g, d, k, os⟩ := by
  have rest : ∀ h₁, KN (fSet (envOf name scope L fa cd :: outer)) h h₁ → base.StaysIn h₁ → Tr base h₁ e IE c2 (rawInt L) →
      wpAny (MM w) A (setFlight (.ref e) none) (fun _ s₃ => wpAny (MM w) A (handleBy (.ref e) (envOf name scope L fa cd) [.ExceptHandler (some (.Name "IndexError" np)) none (b₀ :: suite) pos]) Q E s₃) E ⟨h₁, g, d, k, os⟩ := by
    intro h₁ kn st tr
    refine flight (S := fSet (envOf name scope L fa cd :: outer)) (s := ⟨h₁, g, d, k, os⟩) st tr fun h₂ kn2 st2 tr2 => ?_
    have ok2 := ok.keeps st2
    refine wpAny_handleBy_builtin (X := "IndexError") (T := "IndexError") (b := true) (isSubtype_of_subB (by decide +kernel)) (isSubtype_of_subB (by decide +kernel)) (isSubtype_of_subB (by decide +kernel)) ?_
    refine ldB ok2 hk hkk rfl rfl (by kernel_rfl!) Boot.«IndexError» (by decide +kernel) ?_ (by decide +kernel)
    refine ⟨rfl, Tr.typeIs (s := ⟨h₂, g, d, k, os⟩) tr2, ?_⟩
    refine flight (S := fSet (envOf name scope L fa cd :: outer)) (s := ⟨h₂, g, d, k, os⟩) st2 tr2 fun h₃ kn3 st3 tr3 => ?_
    exact wpAny_mono (H h₃ (kn.trans (kn2.trans kn3)) st3) (fun _ _ q => q) fun _ _ q => q.elim
  rcases hx with nw | tr
  · exact note_first (base := base) (s := ⟨h, g, d, k, os⟩) hfr hl rfl hst nw fun h₁ kn st tr => rest h₁ kn st tr
  · exact note_again (base := base) (s := ⟨h, g, d, k, os⟩) rfl tr (rest h (KN.refl _ _) hst tr)
/-- a plain list of strs -/
def PL (h : Heap) (r : Addr) (ss : List Str) : Prop := ∃ vs, h.PlainList r vs.toArray ∧ StrsAre vs ss
theorem PL.sl {h : Heap} {r : Addr} {ss : List Str} (x : PL h r ss) : SL h r ss := let ⟨vs, a, b⟩ := x; ⟨vs, a.isList, b⟩
theorem PL.at' {h h' : Heap} {r : Addr} {ss : List Str} (x : PL h r ss) (k : ∀ o, h.get? r = some o → h'.get? r = some o) : PL h' r ss := let ⟨vs, ⟨n, e⟩, b⟩ := x; ⟨vs, ⟨n, k _ e⟩, b⟩
/-- x.append(y) -/
theorem rApp {env : Env} {o e : Expr} {apos pos : Pos} {r : Addr} {ss : List Str} {y : Str} {u : Tok} {Q : Value → Shared → Prop}
    (ho : ∀ Q E, Q (.ref r) ⟨h, g, d, k, os⟩ → wpAny (MM w) A (eval o env) Q E ⟨h, g, d, k, os⟩) (he : ∀ Q E, Q (.str y u) ⟨h, g, d, k, os⟩ → wpAny (MM w) A (eval e env) Q E ⟨h, g, d, k, os⟩) (hp : PL h r ss) (hlen : ss.length ≤ 63)
    (H : ∀ h', PL h' r (ss ++ [y]) → (∀ b o, b ≠ r → h.get? b = some o → h'.get? b = some o) → Q .none ⟨h', g, d, k, os⟩)
    (hbase : attributeBase o "append" env (eval o env) = eval o env) (hline : (apos.endLine == pos.line) = true) (htrees : backTo pos (starEach [e] env) = [(false, eval e env)]) :
    wpAny (MM w) A (eval (.Call (.Attribute o "append" apos) [e] [] pos) env) Q E ⟨h, g, d, k, os⟩ := by
  obtain ⟨vs, ⟨n, hr⟩, hS⟩ := hp
  have hl := hS.length
  refine wpAny_Call_method1_late hbase hline htrees (ho _ _ ?_)
  refine ⟨"list", "list.append", F.plainAttrs_list, F.slot_list_append, F.type_list_append, ⟨_, hr, rfl⟩, fun a q => by cases q; exact ⟨_, hr, rfl⟩, ?_⟩
  refine PySem.P.append_list (he _ _ ⟨vs.toArray, n, by simp; rw [sizeLine_eq]; omega, hr, ?_⟩)
  refine H _ ⟨vs ++ [.str y u], ⟨_, (IsL.update hr fun xs => xs.push (.str y u)).trans (by simp; rfl)⟩, hS.append' (.cons _ _ .nil)⟩ fun b o hb q => ?_
  rw [Heap.get?_update_other _ _ (Ne.symm hb)]; exact q
/-- x.extend(y), y being walked -/
theorem rExt {env : Env} {o e : Expr} {apos pos : Pos} {r : Addr} {ss ts : List Str} {Q : Value → Shared → Prop}
    (ho : ∀ Q E, Q (.ref r) ⟨h, g, d, k, os⟩ → wpAny (MM w) A (eval o env) Q E ⟨h, g, d, k, os⟩)
    (he : wpAny (MM w) A (eval e env) (fun v s₁ => ∃ b h₁ k₁, v = .ref b ∧ s₁ = ⟨h₁, g, d, k₁, os⟩ ∧ PL h₁ b ts ∧ (∀ b o, h.get? b = some o → h₁.get? b = some o)) E ⟨h, g, d, k, os⟩) (hp : PL h r ss) (hlen : ss.length + ts.length ≤ 126)
    (H : ∀ h' k', PL h' r (ss ++ ts) → (∀ b o, b ≠ r → h.get? b = some o → h'.get? b = some o) → Q .none ⟨h', g, d, k', os⟩)
    (hbase : attributeBase o "extend" env (eval o env) = eval o env) (hline : (apos.endLine == pos.line) = true) (htrees : backTo pos (starEach [e] env) = [(false, eval e env)]) :
    wpAny (MM w) A (eval (.Call (.Attribute o "extend" apos) [e] [] pos) env) Q E ⟨h, g, d, k, os⟩ := by
  obtain ⟨vs, ⟨n, hr⟩, hS⟩ := hp
  have hl := hS.length
  refine wpAny_Call_method1_late hbase hline htrees (ho _ _ ?_)
  refine ⟨"list", "list.extend", F.plainAttrs_list, F.slot_list_extend, F.type_list_extend, ⟨_, hr, rfl⟩, fun a q => by cases q; exact ⟨_, hr, rfl⟩, ?_⟩
  refine PySem.P.extend_list (wpAny_mono he (fun v s₁ hv => ?_) fun _ _ e => e)
  obtain ⟨b, h₁, k₁, rfl, rfl, ⟨ws, ⟨n2, hb⟩, hT⟩, kk⟩ := hv
  have hl2 := hT.length
  have hr1 := kk _ _ hr
  have hw : vs.toArray.size + ws.toArray.size ≤ 126 := by simp only [List.size_toArray]; omega
  refine ⟨b, vs.toArray, ws.toArray, n, n2, by rw [sizeLine_eq]; omega, by rw [sizeLine_eq]; omega, ?_, rfl, hr1, hb, ?_⟩
  · have : Builtin.List.listTooLong (vs.toArray.size + ws.toArray.size) = false := by
      unfold Builtin.List.listTooLong
      simp only [decide_eq_false_iff_not]
      rw [sizeLine_eq]
      omega
    rw [this]; simp
  refine H _ _ ⟨vs ++ ws, ⟨_, (IsL.update hr1 fun xs => xs ++ ws.toArray).trans (by simp; rfl)⟩, hS.append' hT⟩ fun b o hb q => ?_
  rw [Heap.get?_update_other _ _ (Ne.symm hb)]; exact kk _ _ q
/-- a slice of a list of strs from a place on -/
theorem rSlL {env : Env} {value e : Expr} {p' : Pos} {l : Addr} {ss : List Str} {i : Nat} {t : Tok} {pos : Pos} {Q : Value → Shared → Prop}
    (hv : ∀ Q E, Q (.ref l) ⟨h, g, d, k, os⟩ → wpAny (MM w) A (eval value env) Q E ⟨h, g, d, k, os⟩) (he : ∀ Q E, Q (.int i t) ⟨h, g, d, k, os⟩ → wpAny (MM w) A (eval e env) Q E ⟨h, g, d, k, os⟩) (hl : SL h l ss) (hlen : ss.length ≤ 63)
    (H : ∀ r h' k', PL h' r (ss.drop i) → (∀ b o, h.get? b = some o → h'.get? b = some o) → Q (.ref r) ⟨h', g, d, k', os⟩)
    (hs : ∀ r, subscripted (.Slice (some e) none none p') false (.ref l) r = operate [r, .ref l] (getItem (.ref l) r)) (ht : ∀ r, letTemporaryGo value (.ref l) r = pure ()) :
    wpAny (MM w) A (eval (.Subscript value (.Slice (some e) none none p') pos) env) Q E ⟨h, g, d, k, os⟩ := by
  obtain ⟨vs, v1, v2⟩ := hl
  have vl := v2.length
  refine Subscript_ (hv _ _ ?_)
  refine wpAny_Slice (wpAny_evalPart_some (he _ _ (wpAny_evalPart_none (wpAny_evalPart_none ?_))))
  have hla : (h.push { cls := .type "slice", data := .fields #[.int i t, .none, .none] }).IsList l vs.toArray := v1.push _
  refine subscriptTail_ops (Heap.IsList.typeIs (s := ⟨_, g, d, k, os⟩) hla) list_getitem_lookup (wpAny_getItem_list_slice (lo := some i) (hi := none) (st := none) hla (Heap.IsSliceOf.new ..) (.int _ _) .none .none (by simp) ?_ (by simp; rw [sizeLine_eq]; omega)) (hs _) ht
  refine H _ _ _ ⟨vs.drop i, ⟨0, ?_⟩, v2.drop' i⟩ fun b o e => Heap.get?_push_of_some _ (Heap.get?_push_of_some _ e)
  rw [Heap.get?_push_size _ rfl, slicePick_from']
end
/-- the merge of the two lists -/
def diff : List Str → List Str → List Str × List Str
  | [], ys => ([], ys)
  | x :: xs, [] => (x :: xs, [])
  | x :: xs, y :: ys =>
    if x.cps.toList < y.cps.toList then (x :: (diff xs (y :: ys)).1, (diff xs (y :: ys)).2)
    else if y.cps.toList < x.cps.toList then ((diff (x :: xs) ys).1, y :: (diff (x :: xs) ys).2)
    else diff xs ys
termination_by xs ys => xs.length + ys.length
theorem diff_nil_left (ys : List Str) : diff [] ys = ([], ys) := by rw [diff]
theorem diff_nil_right (xs : List Str) : diff xs [] = (xs, []) := by cases xs <;> rw [diff]
theorem diff_ends {xs ys : List Str} (h : xs = [] ∨ ys = []) : diff xs ys = (xs, ys) := by
  rcases h with rfl | rfl
  · exact diff_nil_left _
  · exact diff_nil_right _
theorem diff_len : ∀ (xs ys : List Str), (diff xs ys).1.length ≤ xs.length ∧ (diff xs ys).2.length ≤ ys.length
  | [], ys => by rw [diff_nil_left]; exact ⟨Nat.le_refl _, Nat.le_refl _⟩
  | x :: xs, [] => by rw [diff_nil_right]; exact ⟨Nat.le_refl _, Nat.le_refl _⟩
  | x :: xs, y :: ys => by
    rw [diff]
    split
    · have := diff_len xs (y :: ys); simp only [List.length_cons] at this ⊢; omega
    · split
      · have := diff_len (x :: xs) ys; simp only [List.length_cons] at this ⊢; omega
      · have := diff_len xs ys; simp only [List.length_cons] at this ⊢; omega
termination_by xs ys => xs.length + ys.length
/-- what is found and what is left -/
structure Rel (old new : List Str) (i j : Nat) (ms us : List Str) : Prop where
  r1 : ms ++ (diff (old.drop i) (new.drop j)).1 = (diff old new).1
  r2 : us ++ (diff (old.drop i) (new.drop j)).2 = (diff old new).2
  i1 : i ≤ old.length
  j1 : j ≤ new.length
section
variable {old new : List Str} {i j : Nat} {ms us : List Str} {x y : Str}
theorem drop_at {l : List Str} {n : Nat} {z : Str} (h : l[n]? = some z) : l.drop n = z :: l.drop (n + 1) := by
  obtain ⟨hl, rfl⟩ := List.getElem?_eq_some_iff.mp h
  exact List.drop_eq_getElem_cons hl
theorem Rel.lt (R : Rel old new i j ms us) (hx : old[i]? = some x) (hy : new[j]? = some y) (h : x.cps.toList < y.cps.toList) : Rel old new (i + 1) j (ms ++ [x]) us := by
  obtain ⟨r1, r2, i1, j1⟩ := R
  rw [drop_at hx, drop_at hy, diff, if_pos h] at r1 r2
  refine ⟨?_, ?_, (List.getElem?_eq_some_iff.mp hx).1, j1⟩
  · rw [drop_at hy, List.append_assoc]; exact r1
  · rw [drop_at hy]; exact r2
theorem Rel.gt (R : Rel old new i j ms us) (hx : old[i]? = some x) (hy : new[j]? = some y) (h : ¬ x.cps.toList < y.cps.toList) (h' : y.cps.toList < x.cps.toList) : Rel old new i (j + 1) ms (us ++ [y]) := by
  obtain ⟨r1, r2, i1, j1⟩ := R
  rw [drop_at hx, drop_at hy, diff, if_neg h, if_pos h'] at r1 r2
  refine ⟨?_, ?_, i1, (List.getElem?_eq_some_iff.mp hy).1⟩
  · rw [drop_at hx]; exact r1
  · rw [drop_at hx, List.append_assoc]; exact r2
theorem Rel.eq (R : Rel old new i j ms us) (hx : old[i]? = some x) (hy : new[j]? = some y) (h : ¬ x.cps.toList < y.cps.toList) (h' : ¬ y.cps.toList < x.cps.toList) : Rel old new (i + 1) (j + 1) ms us := by
  obtain ⟨r1, r2, i1, j1⟩ := R
  rw [drop_at hx, drop_at hy, diff, if_neg h, if_neg h'] at r1 r2
  exact ⟨r1, r2, (List.getElem?_eq_some_iff.mp hx).1, (List.getElem?_eq_some_iff.mp hy).1⟩
end
/-- the state of the walk through the merge -/
structure SD (base h : Heap) (outer : List Env) (L a b rm ru : Addr) (h' : Heap) (m : Str → Option Value) (i j : Nat) (ms us : List Str) : Prop where
  fr : Fr base L h' m
  kn : KN (fSet outer) h h'
  ma : m "expected" = some (.ref a)
  mb : m "actual" = some (.ref b)
  mi : ∃ t, m "i" = some (.int i t)
  mj : ∃ t, m "j" = some (.int j t)
  mm : m "missing" = some (.ref rm)
  mu : m "unexpected" = some (.ref ru)
  pm : PL h' rm ms
  pu : PL h' ru us
section
variable {base h : Heap} {outer : List Env} {L a b rm ru : Addr} {h' h'' : Heap} {m m' : Str → Option Value} {i j : Nat} {ms us : List Str}
theorem KN.but {S : List Addr} {c : Addr} (kn : KN S h h') (hc : h.get? c = none) (kk : ∀ b o, b ≠ c → h'.get? b = some o → h''.get? b = some o) : KN S h h'' := fun b o hb hn =>
  have hbc : b ≠ c := fun q => by rw [q, hc] at hb; cases hb
  let ⟨x1, sl, x2⟩ := kn b o hb hn
  ⟨fun hS => kk _ _ hbc (x1 hS), sl, kk _ _ hbc x2⟩
theorem SD.up {env : Env} (D : SD base h outer L a b rm ru h' m i j ms us) (hL : env.frame = some L) (hLn : h.get? L = none) (kn : KN (fSet (env :: outer)) h' h'') (st : base.StaysIn h'') (r1 : rm ∉ fSet (env :: outer)) (r2 : ru ∉ fSet (env :: outer)) :
    SD base h outer L a b rm ru h'' m i j ms us := by
  refine { D with fr := ⟨kn.ns D.fr.ns, st, D.fr.above⟩, kn := ?_, pm := ?_, pu := ?_ }
  · intro b o hb hn
    obtain ⟨x1, sl, x2⟩ := D.kn b o hb hn
    have hbL : b ≠ L := fun q => by rw [q, hLn] at hb; cases hb
    obtain ⟨_, sl2, y2⟩ := kn b _ x2 hn
    refine ⟨fun hS => (kn b o (x1 hS) hn).1 fun q => ?_, sl2, y2⟩
    rw [fSet, List.filterMap_cons, hL] at q
    rcases List.mem_cons.mp q with q | q
    · exact hbL q
    · exact hS q
  · obtain ⟨vs, v1, v2⟩ := D.pm; exact ⟨vs, kn.plain v1 r1, v2⟩
  · obtain ⟨vs, v1, v2⟩ := D.pu; exact ⟨vs, kn.plain v1 r2, v2⟩
theorem SD.frames {name : Str} {scope : Scope} {fa : Addr} {cd : Value} (D : SD base h outer L a b rm ru h' m i j ms us) (hf : h.FunFrames base outer) (hLn : base.get? L = none) (hk : scope.kind = .function) :
    h'.FunFrames base (envOf name scope L fa cd :: outer) :=
  .cons (by show scope.kind ≠ .module; rw [hk]; decide) rfl D.fr.ns hLn (D.kn.frames hf)
end
theorem nodup_next {l : List Str} {i : Nat} {z z' : Str} (hn : l.Nodup) (h : l[i]? = some z) (h' : l[i + 1]? = some z') : z' ≠ z := by
  obtain ⟨h1, rfl⟩ := List.getElem?_eq_some_iff.mp h
  obtain ⟨h2, rfl⟩ := List.getElem?_eq_some_iff.mp h'
  exact fun q => List.pairwise_iff_getElem.mp hn i (i + 1) h1 h2 (Nat.lt_succ_self _) q.symm
theorem rec_off {base L h m b o} {vs : Array Value} (F : Fr base L h m) (q : h.get? b = some o) (hd : o.data = .fields vs) : b ≠ L := by
  rintro rfl
  obtain ⟨o', es, ep, ho, hd', _⟩ := F.ns
  rw [q] at ho; cases ho; rw [hd] at hd'; cases hd'
abbrev sldEnv (L : Addr) : Env := envOf (("sorted_list_difference" : String) : Str) (oScope (oSt pw 32)) L 786 (.ref 785)
def EX (base h : Heap) (outer : List Env) (L a b rm ru : Addr) (old new : List Str) (g : Array GenState) (d : Drawn) (os : OsState) : Value → Shared → Prop := fun e s' =>
  ∃ ea h' k' m i j ms us c2, e = .ref ea ∧ s' = ⟨h', g, d, k', os⟩ ∧ SD base h outer L a b rm ru h' m i j ms us ∧ Rel old new i j ms us ∧ (old.drop i = [] ∨ new.drop j = []) ∧ (Nw base h' ea IE c2 ∨ Tr base h' ea IE c2 (rawInt L))
section
variable {w : World} {A : Around} {h : Heap} {g : Array GenState} {d : Drawn} {k : Nat} {os : OsState} {E : Value → Shared → Prop}
theorem sld_spec {a b : Addr} {old new : List Str} {base : Heap} {outer : List Env} (hd : A.depth < recursionLimit) (x : Ok w base) (hh : A.handled = none) (K : Below A base outer h) (hbs : base.objs.size ≤ h.objs.size) (ha : SL h a old) (hb : SL h b new)
    (lo : old.length ≤ 30) (ln : new.length ≤ 30) (no : old.Nodup) (nn : new.Nodup) :
    wpAny (MM w) A (call (.ref 786) [.ref a, .ref b]) (fun v s' => ∃ r h' k' rm ru, v = .ref r ∧ s' = ⟨h', g, d, k', os⟩ ∧ h'.get? r = some (seqObj "tuple" #[.ref rm, .ref ru] 0) ∧ SL h' rm (diff old new).1 ∧ SL h' ru (diff old new).2 ∧ KN (fSet outer) h h' ∧ base.StaysIn h') E ⟨h, g, d, k, os⟩ := by
  have ok0 := x.keeps K.stays
  refine callF' (nm := "sorted_list_difference") (dd := oSt pw 32) (pm := .str "cpy313.unittest.util" 1283) (c := 785) (binds := [("expected", .ref a), ("actual", .ref b)]) ok0 (a786 ok0) (c785 ok0) (by omega) (by kernel_rfl!) (by kernel_rfl!) (fun h₁ k₁ F => ?_) (by kernel_rfl!)
  have K1 := K.push (name := (("sorted_list_difference" : String) : Str)) (scope := oScope (oSt pw 32)) (a := 786) (cd := .ref 785) F (by kernel_rfl!)
  have hLb : base.get? h.objs.size = none := stays_none K.stays (fresh_none h)
  have hLl : h.objs.size < h₁.objs.size := F.ns.lt
  refine wpAny_execs_cons ?_
  refine wpAny_Assign_two ?_ (by with_unfolding_all rfl) (by with_unfolding_all rfl)
  repeat walk_at "ms"
  refine wpAny_assign_Name (rSt F (fun h₂ k₂ F2 kk2 => ?_) (by kernel_rfl!) (by kernel_rfl!))
  refine wpAny_assign_Name (rSt F2 (fun h₃ k₃ F3 kk3 => ?_) (by kernel_rfl!) (by kernel_rfl!))
  clear F2
  repeat walk_at "ms"
  refine ⟨by show 0 ≤ _; decide, NewL.mk fun rm h₄ hrm hrm2 hl4 k4 => ?_⟩
  refine rSt (F3.kept k4) (fun h₅ k₅ F5 kk5 => ?_) (by kernel_rfl!) (by kernel_rfl!)
  repeat walk_at "ms"
  refine ⟨by show 0 ≤ _; decide, NewL.mk fun ru h₆ hru hru2 hl6 k6 => ?_⟩
  refine rSt (F5.kept k6) (fun h₇ k₇ F7 kk7 => ?_) (by kernel_rfl!) (by kernel_rfl!)
  repeat walk_at "ms"
  have hrmh : h.get? rm = none := by
    cases q : h.get? rm with
    | none => rfl
    | some o => rw [F3.keep _ _ q] at hrm; cases hrm
  have hruh : h.get? ru = none := by
    cases q : h.get? ru with
    | none => rfl
    | some o => rw [F5.keep _ _ q] at hru; cases hru
  have hrmL : rm ≠ h.objs.size := fun q => by rw [q] at hrm2; exact absurd F3.ns.lt (Nat.not_lt.mpr hrm2)
  have hruL : ru ≠ h.objs.size := fun q => by rw [q] at hru2; exact absurd F5.ns.lt (Nat.not_lt.mpr hru2)
  have hrr : rm ≠ ru := fun q => by rw [← q, kk5 _ _ hl4 hrmL] at hru; cases hru
  have hSn : ∀ r, h.get? r = none → r ≠ h.objs.size → r ∉ fSet (envOf (("sorted_list_difference" : String) : Str) (oScope (oSt pw 32)) h.objs.size 786 (.ref 785) :: outer) := by
    intro r hr hrL q
    rcases List.mem_cons.mp q with q | q
    · exact hrL q
    · obtain ⟨_, o, ho, _⟩ := K.frames.mem q
      rw [hr] at ho; cases ho
  have hmS := hSn rm hrmh hrmL
  have huS := hSn ru hruh hruL
  have hLn := fresh_none h
  have D7 : SD base h outer h.objs.size a b rm ru h₇ _ 0 0 [] [] :=
    ⟨⟨F7.ns, fun b o q => F7.keep _ _ (K.stays _ _ q), hbs⟩, KN.keep F7.keep, by walk_at "lk", by walk_at "lk", ⟨_, by walk_at "lk"⟩, ⟨_, by walk_at "lk"⟩, by walk_at "lk", by walk_at "lk",
      ⟨[], ⟨0, kk7 _ _ (k6 _ _ (kk5 _ _ hl4 hrmL)) hrmL⟩, .nil⟩, ⟨[], ⟨0, kk7 _ _ hl6 hruL⟩, .nil⟩⟩
  clear F F3 F5 F7 kk2 kk3 kk5 kk7 k4 k6 hl4 hl6 hrm hru hrm2 hru2
  have hfr : (A.deeper (envOf (("sorted_list_difference" : String) : Str) (oScope (oSt pw 32)) h.objs.size 786 (.ref 785))).frames = some (envOf (("sorted_list_difference" : String) : Str) (oScope (oSt pw 32)) h.objs.size 786 (.ref 785) :: outer) := K1.stack
  have hhd : (A.deeper (envOf (("sorted_list_difference" : String) : Str) (oScope (oSt pw 32)) h.objs.size 786 (.ref 785))).handled = none := hh
  generalize A.deeper (envOf (("sorted_list_difference" : String) : Str) (oScope (oSt pw 32)) h.objs.size 786 (.ref 785)) = A' at hfr hhd ⊢
  refine wpAny_While ?_
  refine codeAny_whileLoop (fun n s' => ∃ h' k' m i j ms us, s' = ⟨h', g, d, k', os⟩ ∧ SD base h outer h.objs.size a b rm ru h' m i j ms us ∧ Rel old new i j ms us ∧ n = old.length + new.length - (i + j))
    ?_ (old.length + new.length) ⟨h₇, k₇, _, 0, 0, [], [], rfl, D7, ⟨by simp, by simp, Nat.zero_le _, Nat.zero_le _⟩, rfl⟩
  rintro n s' ⟨h', k', m, i, j, ms, us, rfl, D, R, rfl⟩
  clear D7
  refine wpAny_isTrue_value (wpAny_Constant_bool (wpAny_truthy_bool ?_)) (by with_unfolding_all rfl)
  rw [if_pos rfl]
  refine wpAny_execs_cons ?_
  refine wpAny_Try_except ?_
  refine wpAny_mono (Q := fun f s₁ => f = .next ∧ ∃ h' k' m i' j' ms us, s₁ = ⟨h', g, d, k', os⟩ ∧ SD base h outer h.objs.size a b rm ru h' m i' j' ms us ∧ Rel old new i' j' ms us ∧ i + j < i' + j')
    (E := EX base h outer h.objs.size a b rm ru old new g d os) ?_ ?_ ?_
  · have A0 : SL h' a old := D.kn.sl ha
    have B0 : SL h' b new := D.kn.sl hb
    have hi1 := R.i1
    have hj1 := R.j1
    have ff := D.frames (name := (("sorted_list_difference" : String) : Str)) (scope := oScope (oSt pw 32)) (fa := 786) (cd := .ref 785) K.frames hLb (by kernel_rfl!)
    have D0 := D
    obtain ⟨F0, kn, ma, mb, ⟨ti, mi⟩, ⟨tj, mj⟩, mm, mu, pm, pu⟩ := D
    obtain ⟨vs, va, vS⟩ := A0
    obtain ⟨us', vb, uS⟩ := B0
    have vl := vS.length
    have ul := uS.length
    refine wpAny_execs_cons ?_
    refine wpAny_Assign_Name ?_ (by kernel_rfl!)
    refine Subscript_ (ld F0 ma (ld F0 mi ?_ (by kernel_rfl!) (by kernel_rfl!) (by decide +kernel)) (by kernel_rfl!) (by kernel_rfl!) (by decide +kernel))
    by_cases hi : i < old.length
    case neg =>
      refine item_out F0.keep (.inl ⟨hhd, rfl⟩) va (by omega) (by omega) (fun h₂ k₂ e kk st nw => ?_) (by with_unfolding_all rfl)
      exact ⟨e, h₂, k₂, m, i, j, ms, us, .none, rfl, rfl, D0.up (env := envOf (("sorted_list_difference" : String) : Str) (oScope (oSt pw 32)) h.objs.size 786 (.ref 785)) rfl hLn (KN.keep kk) st hmS huS, R, .inl (List.drop_eq_nil_of_le (by omega)), .inl nw⟩
    case pos =>
    obtain ⟨z, hz⟩ : ∃ z, old[i]? = some z := ⟨_, List.getElem?_eq_getElem hi⟩
    obtain ⟨tz, hzv⟩ := vS.get i z hz
    refine itL va (by omega) (by omega) (by simpa using hzv) ?_ (by with_unfolding_all rfl)
    refine rSt F0 (fun h₂ k₂ F2 kk2 => ?_) (by kernel_rfl!) (by kernel_rfl!)
    have D2 : SD base h outer h.objs.size a b rm ru h₂ _ i j ms us := ⟨F2, kn.but hLn fun b o n q => kk2 b o q n, by walk_at "lk", by walk_at "lk", ⟨_, by walk_at "lk"⟩, ⟨_, by walk_at "lk"⟩, by walk_at "lk", by walk_at "lk", pm.at' fun o q => kk2 _ o q hrmL, pu.at' fun o q => kk2 _ o q hruL⟩
    have vb2 : h₂.IsList b us'.toArray := isl vb fun o q => kk2 _ o q (fun e => by obtain ⟨_, ⟨_, r, _⟩, _⟩ := hb; rw [e, hLn] at r; cases r)
    clear D0 F0 vb va
    refine wpAny_execs_cons ?_
    refine wpAny_Assign_Name ?_ (by kernel_rfl!)
    refine Subscript_ (ld F2 (by walk_at "lk") (ld F2 (by walk_at "lk") ?_ (by kernel_rfl!) (by kernel_rfl!) (by decide +kernel)) (by kernel_rfl!) (by kernel_rfl!) (by decide +kernel))
    by_cases hj : j < new.length
    case neg =>
      refine item_out F2.keep (.inl ⟨hhd, rfl⟩) vb2 (by omega) (by omega) (fun h₃ k₃ e kk st nw => ?_) (by with_unfolding_all rfl)
      exact ⟨e, h₃, k₃, _, i, j, ms, us, .none, rfl, rfl, D2.up (env := envOf (("sorted_list_difference" : String) : Str) (oScope (oSt pw 32)) h.objs.size 786 (.ref 785)) rfl hLn (KN.keep kk) st hmS huS, R, .inr (List.drop_eq_nil_of_le (by omega)), .inl nw⟩
    case pos =>
    obtain ⟨y, hy⟩ : ∃ z, new[j]? = some z := ⟨_, List.getElem?_eq_getElem hj⟩
    obtain ⟨ty, hyv⟩ := uS.get j y hy
    refine itL vb2 (by omega) (by omega) (by simpa using hyv) ?_ (by with_unfolding_all rfl)
    refine rSt F2 (fun h₃ k₃ F3 kk3 => ?_) (by kernel_rfl!) (by kernel_rfl!)
    have D3 : SD base h outer h.objs.size a b rm ru h₃ _ i j ms us := ⟨F3, D2.kn.but hLn fun b o n q => kk3 b o q n, by walk_at "lk", by walk_at "lk", ⟨_, by walk_at "lk"⟩, ⟨_, by walk_at "lk"⟩, by walk_at "lk", by walk_at "lk", D2.pm.at' fun o q => kk3 _ o q hrmL, D2.pu.at' fun o q => kk3 _ o q hruL⟩
    clear D2 F2 vb2 kk2 kk3
    refine wpAny_execs_cons ?_
    refine wpAny_If ?_
    repeat walk_at "ms"
    refine lt_str ?_
    repeat walk_at "ms"
    refine split_bool (fun hc => ?_) (fun hc => ?_)
    · have hc := of_decide_eq_true hc
      have hlen : ms.length ≤ 63 := by have := diff_len old new; have q := congrArg List.length R.r1; rw [List.length_append] at q; omega
      refine wpAny_execs_cons ?_
      refine wpAny_Expr_any ?_ (by with_unfolding_all rfl) (by with_unfolding_all rfl)
      refine rApp (r := rm) (ss := ms) (y := z) (u := tz) (fun Q E q => ld F3 (by walk_at "lk") q (by kernel_rfl!) (by kernel_rfl!) (by decide +kernel)) (fun Q E q => ld F3 (by walk_at "lk") q (by kernel_rfl!) (by kernel_rfl!) (by decide +kernel)) D3.pm hlen (fun h₄ pm4 kk4 => ?_) (by with_unfolding_all rfl) (by with_unfolding_all rfl) (by with_unfolding_all rfl)
      have F4 : Fr base h.objs.size h₄ _ := ⟨F3.ns.at' fun o q => kk4 _ o (Ne.symm hrmL) q, fun b o q => kk4 b o (fun e => by rw [e, stays_none K.stays hrmh] at q; cases q) (F3.keep b o q), F3.above⟩
      have kn4 := D3.kn.but hrmh kk4
      have pu4 : PL h₄ ru us := D3.pu.at' fun o q => kk4 _ o (Ne.symm hrr) q
      clear D3 F3 kk4
      refine wpAny_execs_cons ?_
      refine wpAny_AugAssign_Name ?_
      refine ldn F4 (by walk_at "lk") ?_ (by kernel_rfl!) (by kernel_rfl!)
      repeat walk_at "ms"
      refine rIaddI (fun _ _ => ?_)
      refine rSt F4 (fun h₅ k₅ F5 kk5 => ?_) (by kernel_rfl!) (by kernel_rfl!)
      have D5 : SD base h outer h.objs.size a b rm ru h₅ _ (i + 1) j (ms ++ [z]) us := ⟨F5, kn4.but hLn fun b o n q => kk5 b o q n, by walk_at "lk", by walk_at "lk", ⟨_, by with_unfolding_all rfl⟩, ⟨_, by walk_at "lk"⟩, by walk_at "lk", by walk_at "lk", pm4.at' fun o q => kk5 _ o q hrmL, pu4.at' fun o q => kk5 _ o q hruL⟩
      clear F4 kn4 pm4 pu4
      have R5 := R.lt hz hy hc
      refine wpAny_execs_cons ?_
      obtain ⟨t5, mi5⟩ := D5.mi
      refine skipW (i := i + 1) (outer := outer) (base := base) hfr (D5.frames K.frames hLb (by kernel_rfl!)) F5.keep (.inl ⟨hhd, rfl⟩) F5 (by walk_at "lk") mi5 (by walk_at "lk") (D5.kn.sl ha) (by omega) (by omega) (by kernel_rfl!) (by kernel_rfl!) (by kernel_rfl!) (by kernel_rfl!) (by decide +kernel) (by decide +kernel) (by decide +kernel) (fun z' hz' => nodup_next no hz hz') ?_ ?_ (fun _ => by with_unfolding_all rfl)
      · exact fun k' _ => wpAny_execs_nil (wpAny_execs_nil ⟨rfl, h₅, k', _, i + 1, j, _, us, rfl, D5, R5, by omega⟩)
      · exact fun h' k' e hle kn st tr => ⟨e, h', k', _, i + 1, j, _, us, _, rfl, rfl, D5.up (env := sldEnv h.objs.size) rfl hLn kn st hmS huS, R5, .inl (List.drop_eq_nil_of_le hle), .inr tr⟩
    · have hc := of_decide_eq_false hc
      refine wpAny_execs_cons ?_
      refine wpAny_If ?_
      repeat walk_at "ms"
      refine P.gt_str ?_
      repeat walk_at "ms"
      refine split_bool (fun hc' => ?_) (fun hc' => ?_)
      · have hc' := of_decide_eq_true hc'
        have hlen : us.length ≤ 63 := by have := diff_len old new; have q := congrArg List.length R.r2; rw [List.length_append] at q; omega
        refine wpAny_execs_cons ?_
        refine wpAny_Expr_any ?_ (by with_unfolding_all rfl) (by with_unfolding_all rfl)
        refine rApp (r := ru) (ss := us) (y := y) (u := ty) (fun Q E q => ld F3 (by walk_at "lk") q (by kernel_rfl!) (by kernel_rfl!) (by decide +kernel)) (fun Q E q => ld F3 (by walk_at "lk") q (by kernel_rfl!) (by kernel_rfl!) (by decide +kernel)) D3.pu hlen (fun h₄ pu4 kk4 => ?_) (by with_unfolding_all rfl) (by with_unfolding_all rfl) (by with_unfolding_all rfl)
        have F4 : Fr base h.objs.size h₄ _ := ⟨F3.ns.at' fun o q => kk4 _ o (Ne.symm hruL) q, fun b o q => kk4 b o (fun e => by rw [e, stays_none K.stays hruh] at q; cases q) (F3.keep b o q), F3.above⟩
        have kn4 := D3.kn.but hruh kk4
        have pm4 : PL h₄ rm ms := D3.pm.at' fun o q => kk4 _ o hrr q
        clear D3 F3 kk4
        refine wpAny_execs_cons ?_
        refine wpAny_AugAssign_Name ?_
        refine ldn F4 (by walk_at "lk") ?_ (by kernel_rfl!) (by kernel_rfl!)
        repeat walk_at "ms"
        refine rIaddI (fun _ _ => ?_)
        refine rSt F4 (fun h₅ k₅ F5 kk5 => ?_) (by kernel_rfl!) (by kernel_rfl!)
        have D5 : SD base h outer h.objs.size a b rm ru h₅ _ i (j + 1) ms (us ++ [y]) := ⟨F5, kn4.but hLn fun b o n q => kk5 b o q n, by walk_at "lk", by walk_at "lk", ⟨_, by walk_at "lk"⟩, ⟨_, by with_unfolding_all rfl⟩, by walk_at "lk", by walk_at "lk", pm4.at' fun o q => kk5 _ o q hrmL, pu4.at' fun o q => kk5 _ o q hruL⟩
        clear F4 kn4 pm4 pu4
        have R5 := R.gt hz hy hc hc'
        refine wpAny_execs_cons ?_
        obtain ⟨t5, mj5⟩ := D5.mj
        refine skipW (i := j + 1) (outer := outer) (base := base) hfr (D5.frames K.frames hLb (by kernel_rfl!)) F5.keep (.inl ⟨hhd, rfl⟩) F5 (by walk_at "lk") mj5 (by walk_at "lk") (D5.kn.sl hb) (by omega) (by omega) (by kernel_rfl!) (by kernel_rfl!) (by kernel_rfl!) (by kernel_rfl!) (by decide +kernel) (by decide +kernel) (by decide +kernel) (fun z' hz' => nodup_next nn hy hz') ?_ ?_ (fun _ => by with_unfolding_all rfl)
        · exact fun k' _ => wpAny_execs_nil (wpAny_execs_nil (wpAny_execs_nil ⟨rfl, h₅, k', _, i, j + 1, ms, _, rfl, D5, R5, by omega⟩))
        · exact fun h' k' e hle kn st tr => ⟨e, h', k', _, i, j + 1, ms, _, _, rfl, rfl, D5.up (env := sldEnv h.objs.size) rfl hLn kn st hmS huS, R5, .inr (List.drop_eq_nil_of_le hle), .inr tr⟩
      · have hc' := of_decide_eq_false hc'
        have R5 := R.eq hz hy hc hc'
        refine wpAny_execs_cons ?_
        refine wpAny_AugAssign_Name ?_
        refine ldn F3 (by walk_at "lk") ?_ (by kernel_rfl!) (by kernel_rfl!)
        repeat walk_at "ms"
        refine rIaddI (fun _ _ => ?_)
        refine rSt F3 (fun h₄ k₄ F4 kk4 => ?_) (by kernel_rfl!) (by kernel_rfl!)
        have D4 : SD base h outer h.objs.size a b rm ru h₄ _ (i + 1) j ms us := ⟨F4, D3.kn.but hLn fun b o n q => kk4 b o q n, by walk_at "lk", by walk_at "lk", ⟨_, by with_unfolding_all rfl⟩, ⟨_, by walk_at "lk"⟩, by walk_at "lk", by walk_at "lk", D3.pm.at' fun o q => kk4 _ o q hrmL, D3.pu.at' fun o q => kk4 _ o q hruL⟩
        clear D3 F3 kk4
        refine wpAny_execs_cons ?_
        refine wpAny_Try_finally ?_
        refine wpAny_execs_cons ?_
        obtain ⟨t4, mi4⟩ := D4.mi
        refine skipW (i := i + 1) (outer := outer) (base := base) hfr (D4.frames K.frames hLb (by kernel_rfl!)) F4.keep (.inl ⟨hhd, rfl⟩) F4 (by walk_at "lk") mi4 (by walk_at "lk") (D4.kn.sl ha) (by omega) (by omega) (by kernel_rfl!) (by kernel_rfl!) (by kernel_rfl!) (by kernel_rfl!) (by decide +kernel) (by decide +kernel) (by decide +kernel) (fun z' hz' => nodup_next no hz hz') ?_ ?_ (fun _ => by with_unfolding_all rfl)
        · intro k₅ _
          refine wpAny_execs_nil (wpAny_execs_nil ?_)
          refine wpAny_execs_cons ?_
          refine wpAny_AugAssign_Name ?_
          refine ldn F4 (by walk_at "lk") ?_ (by kernel_rfl!) (by kernel_rfl!)
          repeat walk_at "ms"
          refine rIaddI (fun _ _ => ?_)
          refine rSt F4 (fun h₅ k₅ F5 kk5 => ?_) (by kernel_rfl!) (by kernel_rfl!)
          have D5 : SD base h outer h.objs.size a b rm ru h₅ _ (i + 1) (j + 1) ms us := ⟨F5, D4.kn.but hLn fun b o n q => kk5 b o q n, by walk_at "lk", by walk_at "lk", ⟨_, by with_unfolding_all rfl⟩, ⟨_, by with_unfolding_all rfl⟩, by walk_at "lk", by walk_at "lk", D4.pm.at' fun o q => kk5 _ o q hrmL, D4.pu.at' fun o q => kk5 _ o q hruL⟩
          clear D4 F4
          refine wpAny_execs_cons ?_
          obtain ⟨t5, mj5⟩ := D5.mj
          refine skipW (i := j + 1) (outer := outer) (base := base) hfr (D5.frames K.frames hLb (by kernel_rfl!)) F5.keep (.inl ⟨hhd, rfl⟩) F5 (by walk_at "lk") mj5 (by walk_at "lk") (D5.kn.sl hb) (by omega) (by omega) (by kernel_rfl!) (by kernel_rfl!) (by kernel_rfl!) (by kernel_rfl!) (by decide +kernel) (by decide +kernel) (by decide +kernel) (fun z' hz' => nodup_next nn hy hz') ?_ ?_ (fun _ => by with_unfolding_all rfl)
          · exact fun k' _ => wpAny_execs_nil (wpAny_execs_nil (wpAny_execs_nil (wpAny_execs_nil ⟨rfl, h₅, k', _, i + 1, j + 1, ms, us, rfl, D5, R5, by omega⟩)))
          · intro h' k' e hle kn st tr
            refine note_again (base := base) (s := ⟨h', g, d, k', os⟩) rfl tr ?_
            refine came_back (base := base) (S := fSet (sldEnv h.objs.size :: outer)) (s := ⟨h', g, d, k', os⟩) rfl st tr fun h₆ kn6 st6 tr6 => ?_
            exact ⟨e, h₆, k', _, i + 1, j + 1, ms, us, _, rfl, rfl, D5.up (env := sldEnv h.objs.size) rfl hLn (kn.trans kn6) st6 hmS huS, R5, .inr (List.drop_eq_nil_of_le hle), .inr tr6⟩
        · intro h₅ k₅ e1 hle kn5 st5 tr5
          have D5 := D4.up (env := sldEnv h.objs.size) rfl hLn kn5 st5 hmS huS
          clear D4 F4
          refine note_again (base := base) (s := ⟨h₅, g, d, k₅, os⟩) rfl tr5 ?_
          refine ⟨ref_ne_byPass _, ?_⟩
          refine note_again (base := base) (s := ⟨h₅, g, d, k₅, os⟩) rfl tr5 ?_
          refine flight (base := base) (S := fSet (sldEnv h.objs.size :: outer)) (s := ⟨h₅, g, d, k₅, os⟩) st5 tr5 fun h₆ kn6 st6 tr6 => ?_
          have D6 := D5.up (env := sldEnv h.objs.size) rfl hLn kn6 st6 hmS huS
          have F6 := D6.fr
          clear D5
          refine wpAny_execs_cons ?_
          refine wpAny_AugAssign_Name ?_
          refine ldn F6 (by walk_at "lk") ?_ (by kernel_rfl!) (by kernel_rfl!)
          repeat walk_at "ms"
          refine rIaddI (fun _ _ => ?_)
          refine rSt F6 (fun h₇ k₇ F7 kk7 => ?_) (by kernel_rfl!) (by kernel_rfl!)
          have D7 : SD base h outer h.objs.size a b rm ru h₇ _ (i + 1) (j + 1) ms us := ⟨F7, D6.kn.but hLn fun b o n q => kk7 b o q n, by walk_at "lk", by walk_at "lk", ⟨_, by with_unfolding_all rfl⟩, ⟨_, by with_unfolding_all rfl⟩, by walk_at "lk", by walk_at "lk", D6.pm.at' fun o q => kk7 _ o q hrmL, D6.pu.at' fun o q => kk7 _ o q hruL⟩
          have tr7 := tr6.off fun b o vs q hd => kk7 b o q (rec_off F6 q hd)
          clear D6 F6
          refine wpAny_execs_cons ?_
          obtain ⟨t7, mj7⟩ := D7.mj
          refine skipW (A := A'.mark (some (.ref e1))) (i := j + 1) (outer := outer) (base := base) hfr (D7.frames K.frames hLb (by kernel_rfl!)) F7.keep (.inr ⟨e1, _, rfl, tr7, rfl⟩) F7 (by walk_at "lk") mj7 (by walk_at "lk") (D7.kn.sl hb) (by omega) (by omega) (by kernel_rfl!) (by kernel_rfl!) (by kernel_rfl!) (by kernel_rfl!) (by decide +kernel) (by decide +kernel) (by decide +kernel) (fun z' hz' => nodup_next nn hy hz') ?_ ?_ (fun _ => by with_unfolding_all rfl)
          · intro k₈ _
            refine wpAny_execs_nil ?_
            refine pass_on (base := base) (S := fSet (sldEnv h.objs.size :: outer)) (s := ⟨h₇, g, d, k₈, os⟩) rfl F7.keep tr7 fun h₈ kn8 st8 tr8 => ?_
            exact ⟨e1, h₈, k₈, _, i + 1, j + 1, ms, us, _, rfl, rfl, D7.up (env := sldEnv h.objs.size) rfl hLn kn8 st8 hmS huS, R5, .inl (List.drop_eq_nil_of_le hle), .inr tr8⟩
          · intro h' k' e hle' kn st tr
            refine note_again (base := base) (s := ⟨h', g, d, k', os⟩) rfl tr ?_
            refine came_back (base := base) (S := fSet (sldEnv h.objs.size :: outer)) (s := ⟨h', g, d, k', os⟩) rfl st tr fun h₆ kn6 st6 tr6 => ?_
            exact ⟨e, h₆, k', _, i + 1, j + 1, ms, us, _, rfl, rfl, D7.up (env := sldEnv h.objs.size) rfl hLn (kn.trans kn6) st6 hmS huS, R5, .inr (List.drop_eq_nil_of_le hle'), .inr tr6⟩
  · rintro f s₁ ⟨rfl, h', k', m, i', j', ms, us, rfl, D', R', hlt⟩
    refine wpAny_execs_nil (wpAny_execs_nil ⟨_, ?_, h', k', m, i', j', ms, us, rfl, D', R', rfl⟩)
    have := R'.i1; have := R'.j1; omega
  · rintro e s₁ ⟨ea, h', k', m, i, j, ms, us, c2, rfl, rfl, D', R', hend, hx⟩
    have hst := D'.fr.keep
    refine caught x hfr (D'.frames K.frames hLb (by kernel_rfl!)) hst hx (fun h₂ kn st => ?_) (by kernel_rfl!) (by kernel_rfl!)
    have D2 := D'.up rfl hLn kn st hmS huS
    have A2 : SL h₂ a old := D2.kn.sl ha
    have B2 : SL h₂ b new := D2.kn.sl hb
    obtain ⟨F2, kn2, ma, mb, ⟨ti, mi⟩, ⟨tj, mj⟩, mm, mu, pm, pu⟩ := D2
    have e1 : ms ++ old.drop i = (diff old new).1 := by rw [← R'.r1, diff_ends hend]
    have e2 : us ++ new.drop j = (diff old new).2 := by rw [← R'.r2, diff_ends hend]
    have hdl := diff_len old new
    have hlm : ms.length + (old.drop i).length ≤ 126 := by rw [← List.length_append, e1]; omega
    have hlu : us.length + (new.drop j).length ≤ 126 := by rw [← List.length_append, e2]; omega
    refine wpAny_execs_cons ?_
    refine wpAny_Expr_any ?_ (by with_unfolding_all rfl) (by with_unfolding_all rfl)
    refine rExt (r := rm) (ss := ms) (ts := old.drop i) (fun Q E q => ld F2 mm q (by kernel_rfl!) (by kernel_rfl!) (by decide +kernel)) ?_ pm hlm (fun h₃ k₃ pm3 kk3 => ?_) (by with_unfolding_all rfl) (by with_unfolding_all rfl) (by with_unfolding_all rfl)
    · refine rSlL (l := a) (ss := old) (i := i) (t := ti) (fun Q E q => ld F2 ma q (by kernel_rfl!) (by kernel_rfl!) (by decide +kernel)) (fun Q E q => ld F2 mi q (by kernel_rfl!) (by kernel_rfl!) (by decide +kernel)) A2 (by omega) (fun r h' k' p kk => ?_) (fun _ => by with_unfolding_all rfl) (fun _ => by with_unfolding_all rfl)
      exact ⟨r, h', k', rfl, rfl, p, kk⟩
    have F3 : Fr base h.objs.size h₃ m := ⟨F2.ns.at' fun o q => kk3 _ o (Ne.symm hrmL) q, fun b o q => kk3 b o (fun e => by rw [e, stays_none K.stays hrmh] at q; cases q) (F2.keep b o q), F2.above⟩
    have kn3 := kn2.but hrmh kk3
    have pu3 : PL h₃ ru us := pu.at' fun o q => kk3 _ o (Ne.symm hrr) q
    refine wpAny_execs_cons ?_
    refine wpAny_Expr_any ?_ (by with_unfolding_all rfl) (by with_unfolding_all rfl)
    refine rExt (r := ru) (ss := us) (ts := new.drop j) (fun Q E q => ld F3 mu q (by kernel_rfl!) (by kernel_rfl!) (by decide +kernel)) ?_ pu3 hlu (fun h₄ k₄ pu4 kk4 => ?_) (by with_unfolding_all rfl) (by with_unfolding_all rfl) (by with_unfolding_all rfl)
    · refine rSlL (l := b) (ss := new) (i := j) (t := tj) (fun Q E q => ld F3 mb q (by kernel_rfl!) (by kernel_rfl!) (by decide +kernel)) (fun Q E q => ld F3 mj q (by kernel_rfl!) (by kernel_rfl!) (by decide +kernel)) (kn3.sl hb) (by omega) (fun r h' k' p kk => ?_) (fun _ => by with_unfolding_all rfl) (fun _ => by with_unfolding_all rfl)
      exact ⟨r, h', k', rfl, rfl, p, kk⟩
    have F4 : Fr base h.objs.size h₄ m := ⟨F3.ns.at' fun o q => kk4 _ o (Ne.symm hruL) q, fun b o q => kk4 b o (fun e => by rw [e, stays_none K.stays hruh] at q; cases q) (F3.keep b o q), F3.above⟩
    have kn4 := kn3.but hruh kk4
    have pm4 : PL h₄ rm (ms ++ old.drop i) := pm3.at' fun o q => kk4 _ o hrr q
    refine wpAny_execs_cons ?_
    refine wpAny_Break ?_
    rw [e1] at pm4
    rw [e2] at pu4
    clear pm3 pu3 F2 F3 pm pu kn2 kn3
    refine wpAny_execs_cons (M := MM w) (A := A') ?_
    refine wpAny_Return_some ?_
    refine wpAny_Tuple ?_
    repeat walk_at "ms"
    exact ⟨by show 2 ≤ _; decide, _, _, _, rm, ru, rfl, rfl, Heap.get?_push_size _ rfl, pm4.sl.keep (fun _ _ q => Heap.get?_push_of_some _ q), pu4.sl.keep (fun _ _ q => Heap.get?_push_of_some _ q), kn4.trans (KN.keep fun _ _ q => Heap.get?_push_of_some _ q), fun b o q => Heap.get?_push_of_some _ (F4.keep b o q)⟩
end
/-! ## quote: the search for an unsafe sign -/
def drv : Nat → Sre.M → Option Sre.M
  | 0, _ => none
  | n + 1, m => let m := m.runFor Builtin.Re.reTurnSteps; if m.outcome.isSome then some m else drv n m
section
variable {M : Model} {A : Around} {E : Value → Shared → Prop} {s : Shared}
theorem drive_ok : ∀ (n N : Nat) (m m' : Sre.M) {Q : Sre.M → Shared → Prop}, n ≤ N → drv n m = some m' → Q m' s → wpAny M A (Builtin.Re.reDrive N m) Q E s
  | 0, _, _, _, _, _, h, _ => by simp [drv] at h
  | n + 1, 0, _, _, _, hN, _, _ => absurd hN (by omega)
  | n + 1, N + 1, m, m', Q, hN, h, hq => by
    rw [Builtin.Re.reDrive]
    rw [drv] at h
    split
    · rename_i hc
      rw [if_pos hc] at h
      cases h
      exact wpAny_pure hq
    · rename_i hc
      rw [if_neg hc] at h
      exact wpAny_bind (wpAny_rule (drive_ok n N _ m' (by omega) h hq))
theorem rules_ok {m : Sre.M} {Q : PUnit → Shared → Prop} : ∀ (l : List Nat) (f : Nat → PUnit → Sem (ForInStep PUnit)),
    (∀ i u, f i u = if m.seen.has i = true then (do rule (Sre.names.getD i ""); pure (ForInStep.yield PUnit.unit)) else pure (ForInStep.yield PUnit.unit)) → Q ⟨⟩ s → wpAny M A (forIn l PUnit.unit f) Q E s
  | [], f, hf, hq => by rw [List.forIn_nil]; exact wpAny_pure hq
  | i :: l, f, hf, hq => by
    rw [List.forIn_cons, hf]
    split
    · exact wpAny_bind (wpAny_bind (wpAny_rule (wpAny_pure (rules_ok l f hf hq))))
    · exact wpAny_bind (wpAny_pure (rules_ok l f hf hq))
theorem run_ok {n : Nat} {m m' : Sre.M} {Q : Option Sre.M → Shared → Prop} (hn : n ≤ 2 ^ 64) (h : drv n m = some m') (b : Bool) (ho : m'.outcome = some (if b then .matched else .failed)) (hq : Q (if b then some m' else none) s) : wpAny M A (Builtin.Re.reRunToEnd m) Q E s := by
  unfold Builtin.Re.reRunToEnd
  refine wpAny_bind (drive_ok n (2 ^ 64) m m' hn h ?_)
  refine wpAny_bind (rules_ok (m := m') _ _ (fun i u => ?_) ?_)
  · split <;> rfl
  · rw [ho]
    cases b
    · exact wpAny_pure hq
    · exact wpAny_pure hq
end
noncomputable def srItems (P : Params) : Array Value := match (ob68 pw P).data with | .seq xs _ => xs | _ => #[]
noncomputable def srCode (P : Params) : Array Nat := (((srItems P).map Builtin.Re.reRawOf).map (fun (i : Int) => i.toNat))
noncomputable def srRun (P : Params) (x : Str) : Option Sre.M := drv 40 (Sre.forSearch (srCode P) x.cps 0 0 x.cps.size false)
noncomputable def srOut (P : Params) (x : Str) : Option Bool := (srRun P x).bind fun m => match m.outcome with | some .matched => some true | some .failed => some false | _ => none
def unsafe? (y : Str) : Bool := y != "" && y != "a" && y != "aa"
theorem srOut_all (P : Params) : (words.all fun y => srOut P (minus y) == some (unsafe? y) && srOut P (plus y) == some (unsafe? y)) = true := by kernel_rfl
theorem srRun_out {P : Params} {x : Str} {b : Bool} (h : srOut P x = some b) : ∃ m, srRun P x = some m ∧ m.outcome = some (if b then .matched else .failed) := by
  unfold srOut at h
  cases q : srRun P x with
  | none => rw [q] at h; cases h
  | some m =>
    rw [q] at h
    refine ⟨m, rfl, ?_⟩
    simp only [Option.bind_some] at h
    split at h <;> first | (cases h; assumption) | cases h
section
variable {w : World} {A : Around} {h : Heap} {g : Array GenState} {d : Drawn} {k : Nat} {os : OsState} {E : Value → Shared → Prop}
theorem entry_search : entryFor table "re.Pattern.search" = some Builtin.«re.Pattern.search» := entryFor_of_tree (by kernel_rfl)
theorem quiet_search {as : Args} : (Code.builtin "re.Pattern.search" as).quiet = true := Code.quiet_builtin _ (by decide +kernel)
theorem named_search (x : Str) (t : Tok) : Builtin.Re.reNamed "re.Pattern.search" "search" ["string", "pos", "endpos"] 1 [.str x t] [] = pure [some (.str x t), none, none] := by first | rfl | kernel_rfl
theorem search_tree {s : Shared} {x : Str} {t : Tok} {b : Bool} {P : Fin → Shared → Prop} (ok : Ok w s.heap) (hx : x.cps.size ≤ 99) (hb : srOut w.params x = some b)
    (H0 : b = false → P (.done (.ret .none)) s)
    (H1 : b = true → ∀ r h' k', (∀ b o, s.heap.get? b = some o → h'.get? b = some o) → P (.done (.ret (.ref r))) { s with heap := h', toks := k' }) :
    wpAny (MM w) A (Builtin.«re.Pattern.search» ⟨[.ref 69, .str x t], []⟩) P E s := by
  obtain ⟨m, hm, ho⟩ := srRun_out hb
  unfold Builtin.«re.Pattern.search» Builtin.Re.reTarget
  refine wpAny_bind ?_
  refine wpAny_bind (wpAny_of_eq (named_search x t) ?_)
  refine wpAny_bind (wpAny_pure ?_)
  refine wpAny_bind (wpAny_pure ?_)
  dsimp only
  refine wpAny_bind (wpAny_fieldsOf (a69 ok) rfl ?_)
  refine wpAny_bind (wpAny_bind (wpAny_pure (wpAny_pure ?_)))
  dsimp only
  refine PySem.W.KFB.if_not rfl ?_
  refine PySem.W.KFB.if_not rfl ?_
  unfold Builtin.Re.reNoCollectionInside
  refine wpAny_bind (PySem.W.KFB.if_not rfl (wpAny_pure ?_))
  unfold Builtin.Re.reRawItems
  refine wpAny_bind (wpAny_bind (wpAny_seqItems (a68 ok) rfl (wpAny_pure (wpAny_pure ?_))))
  unfold Builtin.Re.reAnswer
  refine wpAny_bind (run_ok (n := 40) (m' := m) (by decide) (b := b) ?_ ho ?_)
  · have e : ∀ (p l : Nat), p = 0 → l = x.cps.size → drv 40 (Sre.forSearch (srCode w.params) x.cps 0 p l false) = some m := by rintro _ _ rfl rfl; exact hm
    exact e _ _ (Nat.zero_min _) (Nat.min_eq_right (Nat.le_trans hx (by decide)))
  cases b
  · exact wpAny_pure (H0 rfl)
  · refine wpAny_bind ?_
    unfold Builtin.Re.reNewMatch
    refine PySem.W.KFB.if_not rfl ?_
    refine wpAny_bind (wpAny_newTuple ?_ (by show 2 ≤ _; decide))
    unfold newFields
    refine wpAny_newObj_type (wpAny_pure ?_) (by show 6 ≤ _; decide)
    exact H1 rfl _ _ _ fun b o e => Heap.get?_push_of_some _ (Heap.get?_push_of_some _ e)
theorem check_search {s : Shared} {x : Str} {t : Tok} {Q : Unit → Shared → Prop} (ok : Ok w s.heap) (H : Q () s) : wpAny (MM w) A (checkBoundCall "re.Pattern.search" ⟨[.ref 69, .str x t], []⟩) Q E s := by
  have hT : s.TypeIs (.ref 69) "re.Pattern" := ⟨_, a69 ok, rfl⟩
  unfold checkBoundCall
  have hsig : Manifest.signature? "re.Pattern.search" = some ⟨.keywords, "Pattern.search", "search", .self, [⟨"string", .posOrKw, true⟩, ⟨"pos", .posOrKw, false⟩, ⟨"endpos", .posOrKw, false⟩]⟩ := by kernel_rfl
  have hkd : builtinKind "re.Pattern.search" = some .method := by decide +kernel
  rw [hsig, hkd]
  dsimp only
  refine PySem.W.KFB.if_not (by decide +kernel) ?_
  refine wpAny_bind (wpAny_isInstance hT (isSubtype_of_subB (b := false) (by decide +kernel)) ?_)
  refine PySem.W.KFB.if_not (by decide +kernel) ?_
  refine wpAny_bind ?_
  unfold isType
  dsimp only
  refine wpAny_bind (wpAny_load (a69 ok) (wpAny_pure ?_))
  refine PySem.W.KFB.if_not rfl ?_
  refine wpAny_bind (wpAny_typeOf hT ?_)
  dsimp only
  exact wpAny_of_eq (by kernel_rfl) H
theorem call_search {x : Str} {t : Tok} {b : Bool} {Q : Value → Shared → Prop} (ok : Ok w h) (hx : x.cps.size ≤ 99) (hb : srOut w.params x = some b)
    (H0 : b = false → Q .none ⟨h, g, d, k, os⟩)
    (H1 : b = true → ∀ r h' k', (∀ b o, h.get? b = some o → h'.get? b = some o) → Q (.ref r) ⟨h', g, d, k', os⟩) :
    wpAny (MM w) A (call (.ref 772) [.str x t]) Q E ⟨h, g, d, k, os⟩ := by
  refine wpAny_call (codeAny_of_tree ?_)
  show wpAny _ A.in1 (callAny (.ref 772) ⟨[.str x t], []⟩) _ _ _
  simp only [callAny]
  refine wpAny_bind (wpAny_load (a772 ok) ?_)
  show wpAny _ _ (if _ then _ else _) _ _ _
  refine PySem.W.KFB.if_so (by rfl) ?_
  show wpAny _ _ (if _ then _ else _) _ _ _
  refine PySem.W.KFB.if_so (by rfl) ?_
  refine wpAny_bind (check_search (s := ⟨h, g, d, k, os⟩) ok ?_)
  refine wpAny_bind (wpAny_pure (wpAny_pure ?_))
  exact ⟨quiet_search, codeAny_builtin entry_search (search_tree (s := ⟨h, g, d, k, os⟩) ok hx hb H0 H1)⟩
theorem cwSearch {pos : Pos} {env : Env} {e : Expr} {rest : List Expr} {Q : Value → Shared → Prop} {s : Shared}
    (H : wpAny (MM w) A (spliced (backTo pos (starEach (e :: rest) env))) (fun vs s₁ => Ok w s₁.heap ∧ wpAny (MM w) A (call (.ref 772) vs) Q E s₁) E s)
    (he : starEach (e :: rest) env = (false, eval e env) :: starEach rest env) (hplain : (backTo pos (starEach rest env)).any (·.1) = false) :
    wpAny (MM w) A (callWith pos (.ref 772) [] (backTo pos (starEach (e :: rest) env)) []) Q E s := by
  rw [he] at H ⊢
  unfold callWith
  refine wpAny_bind (wpAny_holding (Calls.evalArgs_plain (wpAny_mono H (fun x s₁ h₁ => wpAny_bind (wpAny_standAt ?_)) fun _ _ x => x)))
  obtain ⟨ok, hcall⟩ := h₁
  have hp : (backTo pos ((false, eval e env) :: starEach rest env)).any (·.1) = false := by show (false || (backTo pos (starEach rest env)).any (·.1)) = false; rw [hplain]; rfl
  simp only [hp, List.any_nil, Bool.or_false]
  refine wpAny_bind (m := keeperOf (.ref 772)) ?_
  unfold keeperOf
  refine wpAny_bind (wpAny_load (a772 ok) ?_)
  show wpAny _ _ (if _ then _ else _) _ _ _
  refine PySem.W.KFB.if_so (by rfl) ?_
  refine wpAny_pure ?_
  exact wpAny_bind (wpAny_mono hcall (fun r s₂ hr => wpAny_bind (wpAny_holding (wpAny_point (wpAny_pure hr)))) fun _ _ x => x)
end
section
variable {w : World} {A : Around} {h : Heap} {g : Array GenState} {d : Drawn} {k : Nat} {os : OsState} {E : Value → Shared → Prop}
def quoted (x : Str) (u : Bool) : Str := if u then ("'" : Str) ++ Txt.replace x "'" "'\"'\"'" ++ "'" else x
theorem quote_spec {x : Str} {b : Bool} {t : Tok} (hd : A.depth < recursionLimit) (ok : Ok w h) (hx : 0 < x.length ∧ x.length ≤ 9) (hb : srOut w.params x = some b) (hr : (Txt.replace x "'" "'\"'\"'").length ≤ 99) :
    wpAny (MM w) A (call (.ref 779) [.str x t]) (fun v s' => (∃ u, v = .str (quoted x b) u) ∧ Keeps ⟨h, g, d, k, os⟩ s') E ⟨h, g, d, k, os⟩ := by
  refine callF' (nm := "quote") (dd := oSt pw 30) (pm := .str "cpy313.shlex" 1115) (c := 778) (binds := [("s", .str x t)]) ok (a779 ok) (c778 ok) hd (by kernel_rfl!) (by kernel_rfl!) (fun h₁ k₁ F => ?_) (by kernel_rfl!)
  have ok1 := ok.fr F
  refine wpAny_execs_cons ?_
  repeat walk_at "ms"
  refine isTrue_not ?_
  refine isTrue_plain ?_ (by with_unfolding_all rfl)
  repeat walk_at "ms"
  refine PySem.P.truthy_str (by omega) ?_
  rw [show ((x.length : Int) != 0) = true by simp; omega]
  refine wpAny_execs_nil ?_
  repeat walk_at "ms"
  refine cwSearch ?_ (by with_unfolding_all rfl) (by with_unfolding_all rfl)
  repeat walk_at "ms"
  refine ⟨ok1, ?_⟩
  refine call_search ok1 (Nat.le_trans hx.2 (by decide)) hb (fun q => ?_) (fun q r h₂ k₂ kk2 => ?_)
  · subst q
    refine wpAny_Constant_none (is_none_none ?_)
    repeat walk_at "ms"
    rw [if_pos rfl]
    repeat walk_at "ms"
    exact ⟨⟨_, rfl⟩, kps F.keep⟩
  · subst q
    have F2 := F.kept kk2
    refine wpAny_Constant_none (is_none_ne (by intro q; cases q) ?_)
    repeat walk_at "ms"
    rw [if_neg (by decide)]
    refine wpAny_execs_nil ?_
    clear F ok1
    refine wpAny_execs_cons ?_
    refine wpAny_Return_some ?_
    refine wpAny_BinOp (wpAny_BinOp ?_)
    refine wpAny_Constant_str ?_
    refine wpAny_Call_method2_late (by with_unfolding_all rfl) (by with_unfolding_all rfl) (by with_unfolding_all rfl) ?_
    repeat walk_at "ms"
    refine ⟨"str", "str.replace", F.plainAttrs_str, F.slot_str_replace, F.type_str_replace, typeIs_str _ _ _, fun a q => by (cases q), ?_⟩
    refine Calls.callWith_builtin (by with_unfolding_all rfl) (Calls.evalArgs_plain (Calls.spliced_cons ?_))
    refine wpAny_Constant_str (Calls.spliced_cons (wpAny_Constant_str (Calls.spliced_nil ?_)))
    refine SC.replace (by simp) (by simp) (by simp) (by decide +kernel) (by show x.length + (x.length + 1) * 5 ≤ _; omega) (fun u' k' => ?_)
    have hrl : (Txt.replace x "'" "'\"'\"'").length ≤ 99 := hr
    refine rAddS (by rw [sizeLine_eq]; show 1 + _ ≤ _; omega) (fun _ _ => ?_)
    repeat walk_at "ms"
    refine rAddS (by rw [sizeLine_eq, Str.length_append]; show 1 + _ + 1 ≤ _; omega) (fun _ _ => ?_)
    exact ⟨⟨_, rfl⟩, kps F2.keep⟩
end
/-! ## join -/
def BM (h : Heap) : Prop := ∃ ob, h.get? 4 = some ob ∧ ob.cls = .type "module" ∧ ob.dict = some builtinsNs ∧ ob.data = .plain
def JT (h : Heap) : Prop := ∃ ps, h.IsCode 770 766 ps ∧ h.TableAt 770 766 ps
theorem JT.keep {h h' : Heap} (x : JT h) (k : ∀ b o, h.get? b = some o → h'.get? b = some o) : JT h' := let ⟨ps, a, b⟩ := x; ⟨ps, a.keeps k, b.keeps k⟩
theorem JT.at2 {h h' : Heap} (x : JT h) (k1 : ∀ o, h.get? 770 = some o → h'.get? 770 = some o) (k2 : ∀ o, h.get? 766 = some o → h'.get? 766 = some o) : JT h' :=
  let ⟨ps, ⟨o, vs, file, tf, flags, tg, inF, text, tt, op, a, r1, r2, r3, r4, r5, r6, b, r⟩, ⟨⟨o', vs', a', r'⟩, t⟩⟩ := x
  ⟨ps, ⟨o, vs, file, tf, flags, tg, inF, text, tt, op, k1 _ a, r1, r2, r3, r4, r5, r6, k2 _ b, r⟩, ⟨⟨o', vs', k1 _ a', r'⟩, k2 _ t⟩⟩
theorem BM.at' {h h' : Heap} (x : BM h) (k : ∀ o, h.get? 4 = some o → h'.get? 4 = some o) : BM h' := let ⟨ob, a, r⟩ := x; ⟨ob, k _ a, r⟩
def toks18 : List Str := words.map minus ++ words.map plus
def us (x : Str) : Bool := !(([("-" : Str), "-a", "-aa", "+", "+a", "+aa"] : List Str).any (· == x))
def qt (x : Str) : Str := quoted x (us x)
theorem toks_facts (P : Params) : (toks18.all fun x => srOut P x == some (us x) && decide (0 < x.length) && decide (x.length ≤ 9) && decide ((Txt.replace x "'" "'\"'\"'").length ≤ 99) && decide ((qt x).length ≤ 40)) = true := by kernel_rfl
theorem tok_fact {P : Params} {x : Str} (hx : x ∈ toks18) : srOut P x = some (us x) ∧ (0 < x.length ∧ x.length ≤ 9) ∧ (Txt.replace x "'" "'\"'\"'").length ≤ 99 ∧ (qt x).length ≤ 40 := by
  have := List.all_eq_true.mp (toks_facts P) x hx
  simp only [Bool.and_eq_true, beq_iff_eq, decide_eq_true_eq] at this
  exact ⟨this.1.1.1.1, ⟨this.1.1.1.2, this.1.1.2⟩, this.1.2, this.2⟩
theorem Ok.but {w : World} {h h' : Heap} (x : Ok w h) (k : ∀ b o, b ≠ 766 → h.get? b = some o → h'.get? b = some o) : Ok w h' := by
  have q : (KK pw w.params).lookup 766 = none := by kernel_rfl!
  refine ⟨fun a o e => k a o (fun r => by rw [r, q] at e; cases e) (x.K a o e), x.lim.extBut (a := 766) (fun b o n e => k b o n e) (by decide), ?_⟩
  obtain ⟨mb, a, b⟩ := x.blt
  exact ⟨mb, a.extBut (b := 766) (fun b o n e => k b o n e) (by decide), b⟩
theorem passing_all (n : Nat) : passing (fun _ => true) n 0 = List.range n := by simp [passing]
theorem join_ok : ∀ (l : List Str), (∀ x ∈ l, x.length ≤ 40) → ∀ a, (l.foldl (fun (n : Nat) (x : Str) => n + x.length + (" " : Str).length) a) ≤ a + l.length * 41
  | [], _, a => by simp
  | x :: l, h, a => by
    have := join_ok l (fun y hy => h y (List.mem_cons_of_mem _ hy)) (a + x.length + (" " : Str).length)
    have hx := h x List.mem_cons_self
    simp only [List.foldl_cons, List.length_cons]
    have e : ((" " : String) : Str).length = 1 := by decide +kernel
    rw [e] at this ⊢
    omega
section
variable {w : World} {A : Around} {h : Heap} {g : Array GenState} {d : Drawn} {k : Nat} {os : OsState} {E : Value → Shared → Prop}
theorem join_spec {a : Addr} {ts : List Str} (hd : A.depth + 3 < recursionLimit) (hh : A.handled = none) (ok : Ok w h) (bm : BM h) (jt : JT h) (ab : AllBare g) (hs : SL h a ts) (hts : ∀ x ∈ ts, x ∈ toks18) (hl : ts.length ≤ 30) :
    wpAny (MM w) A (call (.ref 771) [.ref a]) (fun v s' => ∃ u h' g' d' k', v = .str (Str.join " " (ts.map qt)) u ∧ s' = ⟨h', g', d', k', os⟩ ∧ AllBare g' ∧ JT h' ∧ ∀ b o, b ≠ 766 → h.get? b = some o → h'.get? b = some o) E ⟨h, g, d, k, os⟩ := by
  refine callF' (nm := "join") (dd := oSt pw 27) (pm := .str "cpy313.shlex" 1115) (c := 770) (binds := [("split_command", .ref a)]) ok (a771 ok) (c770 ok) (by omega) (by kernel_rfl!) (by kernel_rfl!) (fun h₁ k₁ F => ?_) (by kernel_rfl!)
  have ok1 := ok.fr F
  have jt1 := jt.keep F.keep
  have bm1 := bm.at' fun o => F.keep 4 o
  obtain ⟨vs, v1, v2⟩ := hs.keep F.keep
  have vl := v2.length
  refine wpAny_execs_cons ?_
  refine wpAny_Return_some ?_
  refine wpAny_Call_method1_late (by with_unfolding_all rfl) (by with_unfolding_all rfl) (by with_unfolding_all rfl) ?_
  repeat walk_at "ms"
  refine ⟨"str", "str.join", PySem.F.plainAttrs_str, PySem.F.slot_str_join, PySem.F.type_str_join, typeIs_str _ _ _, fun a q => by (cases q), ?_⟩
  refine Calls.callWith_builtin (by with_unfolding_all rfl) (Calls.evalArgs_plain (Calls.spliced_cons ?_))
  obtain ⟨ps, ic, ta⟩ := jt1
  have hlist : (a : Addr) < h₁.objs.size := by obtain ⟨_, e, _⟩ := v1; exact Heap.lt_size e
  refine wpAny_GeneratorExp_walksQD (cl := []) hh (by kernel_rfl!) (by kernel_rfl!) (by decide) (by kernel_rfl!) (by kernel_rfl!) (by kernel_rfl!) (by show A.depth + 1 < _; omega) ?_ (fun _ => by kernel_rfl!)
  repeat walk_at "ms"
  refine wpAny_pyIter_list v1 ?_
  refine ⟨ok1.lim.push _, ?_⟩
  have hit : (h₁.push { cls := .type "list_iterator", data := .fields #[.ref a, .int 0 0] }).get? h₁.objs.size = some { cls := .type "list_iterator", data := .fields #[.ref a, .int 0 0] } := Heap.get?_push_size _ rfl
  have kp : ∀ b o, h₁.get? b = some o → (h₁.push { cls := .type "list_iterator", data := .fields #[.ref a, .int 0 0] }).get? b = some o := fun _ _ e => Heap.get?_push_of_some _ e
  have hsz2 : (h₁.push { cls := .type "list_iterator", data := .fields #[.ref a, .int 0 0] }).objs.size = h₁.objs.size + 1 := Heap.size_push ..
  show wpAny _ _ _ _ _ ⟨h₁.push { cls := .type "list_iterator", data := .fields #[.ref a, .int 0 0] }, g, d, _, os⟩
  generalize hh2 : h₁.push { cls := .type "list_iterator", data := .fields #[.ref a, .int 0 0] } = h₂ at hit kp hsz2 ⊢
  have hLl : h.objs.size < h₁.objs.size := F.ns.lt
  have hLP : h.objs.size ≠ 766 := Nat.ne_of_gt (Nat.lt_of_lt_of_le (by decide : 766 < 771) (Nat.le_of_lt (Heap.lt_size (a771 ok))))
  have hP1 : (766 : Nat) < h₁.objs.size := Heap.lt_size ta.2
  have haP : a ≠ 766 := fun e => by
    obtain ⟨o, ho, hc, _⟩ := v1
    rw [e, ta.2] at ho; cases ho; cases hc
  refine wpAny_mono (Q := fun cv s₃ => ∃ h₃ k₃, s₃ = ⟨h₃, g, d, k₃, os⟩ ∧ (∀ b o, b ≠ 766 → h₂.get? b = some o → h₃.get? b = some o) ∧ h₂.objs.size ≤ h₃.objs.size ∧ JT h₃) (E := fun _ _ => False) ?_ ?_ (fun _ _ e => e.elim)
  · cases hf : codeAmong _ ps.toList with
    | some c' => exact wpAny_genexprCode_hit rfl (ic.keeps kp) hf ⟨h₂, _, rfl, fun _ _ _ e => e, Nat.le_refl _, ps, ic.keeps kp, ta.keeps kp⟩
    | none =>
      refine wpAny_genexprCodeX rfl (ic.keeps kp) (ta.keeps kp) hf fun c' h' tk hx hge hlt hc' _ ht' _ => ?_
      exact ⟨h', tk, rfl, fun b o n e => hx b o n e, Nat.le_trans hge (Nat.le_of_lt hlt), _, hc', ht'⟩
  · rintro cv s₃ ⟨h₃, k₃, rfl, kx, hsz, jt3⟩
    have kx1 : ∀ b o, b ≠ 766 → h₁.get? b = some o → h₃.get? b = some o := fun b o n e => kx b o n (kp b o e)
    have ok3 := ok1.but kx1
    obtain ⟨ob, o1, o2, o3, o4⟩ := bm1.at' fun o e => kx1 4 o (by decide) e
    refine wpAny_builtinsFor ok3.g (by kernel_rfl!) (by decide) o1 o2 o3 o4 ?_
    refine ⟨h₁.objs.size, [h₁.objs.size, a], [h₁.objs.size], vs.toArray.size, (fun i v => vs.toArray[i]? = some v), _, (fun _ => true), (fun i y => ∃ x u, ts[i]? = some x ∧ y = .str (qt x) u), rfl,
      (fun A' hA => Walks.list hA h₁.objs.size a (Nat.ne_of_lt hlist) vs.toArray), ⟨⟨_, kx _ _ (Nat.ne_of_gt hP1) hit, rfl, rfl⟩, isl v1 fun o e => kx1 _ _ haP e⟩, ?_, ok3.lim, ?_, ?_, ?_⟩
    · intro b hb
      show b < h₃.objs.size
      refine Nat.lt_of_lt_of_le ?_ hsz
      rw [hsz2]
      rcases List.mem_cons.mp hb with rfl | hb
      · exact Nat.lt_succ_self _
      · rcases List.mem_cons.mp hb with rfl | hb
        · exact Nat.lt_succ_of_lt hlist
        · cases hb
    · intro hm
      rcases List.mem_cons.mp hm with e | hm
      · rw [← e] at hP1; exact absurd hP1 (by decide)
      · cases hm
    · intro href hhref
      have keep : ∀ s₂ : Shared, (∀ b ∈ List.range h₃.objs.size, b ∉ [h₁.objs.size] → ∀ o, href.get? b = some o → s₂.heap.get? b = some o) → Ok w s₂.heap := by
        intro s₂ kk
        refine ok1.but fun b o n e => kk b (List.mem_range.mpr (Heap.lt_size (kx1 b o n e))) (fun hm => ?_) o (hhref b o (kx1 b o n e))
        rcases List.mem_cons.mp hm with q | hm
        · exact absurd (Heap.lt_size e) (by rw [q]; exact Nat.lt_irrefl _)
        · cases hm
      refine ⟨fun A' E' i v s₂ m₂ hA hD hU hP hn hm kk => ?_, fun A' E' i v s₂ m₂ hA hD hU hP hp hn hm kk => ?_⟩
      · obtain ⟨h', g', d', k', os'⟩ := s₂
        simp only [List.forIn_nil]
        exact wpAny_pure ⟨rfl, kps fun _ _ e => e⟩
      · have ok4 := keep s₂ kk
        obtain ⟨h', g', d', k', os'⟩ := s₂
        obtain ⟨x, t, rfl, hx⟩ := v2.item i v (by simpa using hP)
        obtain ⟨f1, f2, f3, _⟩ := tok_fact (P := w.params) (hts x (List.mem_of_getElem? hx))
        have hD' : A'.depth ≤ A.depth + 1 + 1 := hD
        repeat walk_at "ms"
        refine cwF (ob779 pw w.params) (by with_unfolding_all rfl) ?_
        repeat walk_at "ms"
        refine ldN hn hm ?_ (by kernel_rfl!) (by kernel_rfl!) (by decide +kernel)
        repeat walk_at "ms"
        refine ⟨⟨a779 ok4, rfl⟩, ?_⟩
        refine wpAny_mono (quote_spec (by omega) ok4 f2 f1 f3) (fun v s' hv => ?_) (fun _ _ e => e)
        obtain ⟨⟨u, rfl⟩, kk'⟩ := hv
        exact ⟨⟨x, u, hx, rfl⟩, kk'⟩
    · intro ga h₅ tk gs hgb hag hsz5 hk5 W hat
      refine Calls.spliced_nil ?_
      have kf : ∀ b o, b ≠ 766 → h₁.get? b = some o → h₅.get? b = some o := fun b o n e => hk5 b o (kx1 b o n e)
      have F5 : Fr ({} : Heap) h.objs.size h₅ _ := ⟨F.ns.extBut (b := 766) (fun b o n e => kf b o n e) hLP, fun b o q => by simp [Heap.get?] at q, Nat.zero_le _⟩
      have hpl : (passing (fun _ => true) vs.toArray.size 0).length = ts.length := by rw [passing_all, List.length_range, List.size_toArray, vl]
      have hmap : (List.range (passing (fun _ => true) vs.toArray.size 0).length).map (fun j => qt (ts.getD j "")) = ts.map qt := by
        rw [hpl]
        apply List.ext_getElem?
        intro j
        by_cases hj : j < ts.length
        · simp [hj, List.getD_eq_getElem?_getD]
        · simp [List.getElem?_eq_none (Nat.not_lt.mp hj), List.getElem?_eq_none (show (List.range ts.length).length ≤ j by simpa using hj)]
      refine join_rowsK (K := h₁.objs.size - 1) F5 (ab.push hgb) ⟨_, _, _, _, W, hat, (fun i s' st => st.1.typeIs), List.mem_cons_self, ?_, ?_⟩ (Nat.le_sub_one_of_lt hLl) (fun j => qt (ts.getD j "")) ?_ ?_ ?_ (by rw [hpl, sizeLine_eq]; omega)
      · intro b hb
        show b < h₅.objs.size
        rw [hsz5]
        have hag' : h₃.objs.size < ga := hag
        rcases List.mem_cons.mp hb with rfl | hb
        · exact Nat.lt_succ_self _
        · rcases List.mem_cons.mp hb with rfl | hb
          · exact Nat.lt_succ_of_lt hag'
          · exact Nat.lt_succ_of_lt (Nat.lt_trans (List.mem_range.mp hb) hag')
      · intro b hb
        have h13 : h₁.objs.size < h₃.objs.size := Nat.lt_of_lt_of_le (by rw [hsz2]; exact Nat.lt_succ_self _) hsz
        have h10 : 0 < h₁.objs.size := Nat.lt_trans (by decide) hP1
        rcases List.mem_cons.mp hb with rfl | hb
        · exact Nat.lt_trans (Nat.sub_lt h10 (by decide)) h13
        · rcases List.mem_cons.mp hb with rfl | hb
          · exact Nat.sub_lt h10 (by decide)
          · cases hb
      · rintro j v ⟨i, hi, x, u, hx, rfl⟩
        rw [passing_all] at hi
        have hij : j = i := by
          obtain ⟨hj, e⟩ := List.getElem?_eq_some_iff.mp hi
          simpa using e
        subst hij
        exact ⟨u, by simp [List.getD_eq_getElem?_getD, hx]⟩
      · rw [hmap]
        unfold JoinOk Builtin.Str.tooLong
        have := join_ok (ts.map qt) (fun x hx => by obtain ⟨y, hy, rfl⟩ := List.mem_map.mp hx; exact (tok_fact (P := w.params) (hts y hy)).2.2.2) 0
        rw [List.length_map] at this
        rw [Bool.not_eq_true', decide_eq_false_iff_not, List.foldl_toArray, sizeLine_eq]
        have hle : ts.length * 41 ≤ 30 * 41 := Nat.mul_le_mul_right _ hl
        intro q
        exact absurd (Nat.lt_of_lt_of_le q this) (by omega)
      · intro s' t' F' G' hos kk
        rw [hmap]
        obtain ⟨h', g', d', k', os'⟩ := s'
        cases hos
        have kp5 : ∀ b o, b < h₁.objs.size → h₅.get? b = some o → h'.get? b = some o := fun b o hb e => kk b o (Nat.le_sub_one_of_lt hb) e
        refine ⟨t', h', g', d', k', congrArg (Value.str · t') (eq_of_beq (join_plain_closes _ _)), rfl, G', ?_, fun b o n e => kp5 b o (Heap.lt_size (F.keep b o e)) (kf b o n (F.keep b o e))⟩
        have h770 : (770 : Nat) < h₁.objs.size := Nat.lt_trans (by decide) (Heap.lt_size (a771 ok1))
        exact jt3.at2 (fun o q => kp5 _ o h770 (hk5 _ _ q)) fun o q => kp5 _ o hP1 (hk5 _ _ q)
end
/-! ## Objects of the text's classes -/
structure IN (h : Heap) (x dx C : Addr) (names : List Str) (mA : Str → Option Value) : Prop where
  at_ : ∃ ox, h.get? x = some ox ∧ ox.cls = .ref C ∧ notCls ox = true ∧ ox.dict = some dx
  ns : h.Ns1 dx mA
  ne : dx ≠ x
  wi : Within mA names
  hi : 838 ≤ dx
theorem IN.keep {h h' : Heap} {x dx C : Addr} {names : List Str} {mA : Str → Option Value} (I : IN h x dx C names mA) (k : ∀ b o, h.get? b = some o → h'.get? b = some o) : IN h' x dx C names mA :=
  ⟨let ⟨ox, a, r⟩ := I.at_; ⟨ox, k _ _ a, r⟩, I.ns.at fun o => k _ o, I.ne, I.wi, I.hi⟩
/-- what is asked of a class, so that its objects' attributes are read and stored plainly -/
def plainCls (K : Frag) (C : Addr) : Bool := (clsIn K C).any (·.hasDict) && plainOver K C &&
  (findIn K (.ref C) "__getattribute__" == some (some (.builtin "object.__getattribute__"))) && (findIn K (.ref C) "__setattr__" == some (some (.builtin "object.__setattr__"))) && (findIn K (.ref C) "__getattr__" == some none)
def freeName (K : Frag) (C : Addr) (name : Str) : Bool := findIn K (.ref C) name == some none
section
variable {w : World} {A : Around} {h : Heap} {g : Array GenState} {d : Drawn} {k : Nat} {os : OsState} {E : Value → Shared → Prop} {x dx C : Addr} {names : List Str} {mA : Str → Option Value} {name : Str} {v : Value}
theorem ns1_look {od : Obj} {es : Array DictEntry} {ep : Nat} {r : Option Value} (hd : od.data = .dict es ep) (hk : StrKeys es) (hf : nsFind es name = r) : lookIn name od = some r := by
  unfold lookIn
  rw [hd]
  dsimp only
  unfold nsFind findBy at hf
  rw [← Array.find?_toList] at hf
  cases q : es.toList.find? (·.key.isStr name) with
  | some e => 
    rw [show (es.toList.find? fun e => e.key.isStr name) = some e from q] at hf
    simp only [Option.map_some] at hf
    rw [← hf]
  | none =>
    rw [show (es.toList.find? fun e => e.key.isStr name) = none from q] at hf
    simp only [Option.map_none] at hf
    have : es.toList.any (·.refKey) = false := by
      rw [List.any_eq_false]; intro e he; obtain ⟨n, t, hh⟩ := hk e (Array.mem_toList_iff.mp he); simp [DictEntry.refKey, hh]
    rw [this, ← hf]; rfl
theorem IN.inst (I : IN h x dx C names mA) : ∃ ox od, InstAt h x ox C (some od) ∧ ox.dict = some dx ∧ h.get? dx = some od ∧ ∀ n, lookIn n od = some (mA n) := by
  obtain ⟨ox, a, b, c, e⟩ := I.at_
  obtain ⟨od, es, ep, ho, hd, hk, hu, hf⟩ := I.ns
  exact ⟨ox, od, ⟨a, b, c, by rw [e]; exact ho⟩, e, ho, fun n => ns1_look hd hk (hf n)⟩
theorem IN.get {expr : Bool} {Q : Value → Shared → Prop} (I : IN h x dx C names mA) (ok : Ok w h) (hp : plainCls (KK pw w.params) C = true) (hn : freeName (KK pw w.params) C name = true) (hv : mA name = some v) (hh : handedIn v = true) (H : ∀ k', Q v ⟨h, g, d, k', os⟩) :
    wpAny (MM w) A (getAttr (.ref x) name expr) Q E ⟨h, g, d, k, os⟩ := by
  obtain ⟨ox, od, I', _, _, hl⟩ := I.inst
  simp only [plainCls, Bool.and_eq_true, beq_iff_eq] at hp
  obtain ⟨⟨⟨⟨h1, h2⟩, h3⟩, h4⟩, h5⟩ := hp
  obtain ⟨cd, hc, hdict⟩ := any_some h1
  have hn' : findIn (KK pw w.params) (.ref C) name = some none := beq_iff_eq.mp hn
  refine get_value (s := ⟨h, g, d, k, os⟩) ok.K I' h3 ?_ hh (H _)
  unfold findObj
  rw [hc, hn']
  simp only [Option.bind_some, W.ownOf, hdict, if_true, hl, hv]
theorem IN.set {Q : Unit → Shared → Prop} (I : IN h x dx C names mA) (ok : Ok w h) (hp : plainCls (KK pw w.params) C = true) (hn : freeName (KK pw w.params) C name = true) (hm : name ∈ names) (hln : names.length ≤ 100)
    (H : ∀ h' k', IN h' x dx C names (fun y => if y = name then some v else mA y) → (∀ b o, b ≠ dx → h.get? b = some o → h'.get? b = some o) → Q () ⟨h', g, d, k', os⟩) :
    wpAny (MM w) A (setAttr (.ref x) name v) Q E ⟨h, g, d, k, os⟩ := by
  obtain ⟨ox, od, I', hox, hod, hl⟩ := I.inst
  simp only [plainCls, Bool.and_eq_true, beq_iff_eq] at hp
  obtain ⟨⟨⟨⟨h1, h2⟩, h3⟩, h4⟩, h5⟩ := hp
  obtain ⟨cd, hc, hdict⟩ := any_some h1
  have hn' : findIn (KK pw w.params) (.ref C) name = some none := beq_iff_eq.mp hn
  refine set_plain (s := ⟨h, g, d, k, os⟩) ok.K I' h4 ?_
  refine osa_open (s := ⟨h, g, d, k + 1, os⟩) (r := none) ok.K I' h2 (by unfold takerIn; rw [hn']; rfl) fun b => ?_
  obtain ⟨hx, hcl, hnc, -⟩ := I'
  obtain ⟨oc, odi, oda, osl⟩ := ox
  dsimp only at hcl hox
  subst hcl hox
  refine wpAny_bind (wpAny_pure (wpAny_bind (wpAny_bind (wpAny_loadPart hx (wpAny_bind ((looks_clsIn (M := MM w) ok.K hc).at ?_))))))
  rw [hdict]
  refine wpAny_pure (a := some dx) ?_
  show wpAny _ _ (Builtin.ObjectAttr.storeInDict dx _ name v) _ _ _
  unfold Builtin.ObjectAttr.storeInDict Builtin.ObjectAttr.newKeyGuard
  refine wpAny_bind (wpAny_pure (wpAny_bind (wpAny_nsSet1 I.ns fun h' hn' hs => ?_)))
  have hw : Within (fun y => if y = name then some v else mA y) names := by
    intro y hy
    by_cases e : y = name
    · rw [e]; exact hm
    · exact I.wi y (by simpa [e] using hy)
  obtain ⟨oD, esD, epD, hoD, hdD, hcD⟩ := hn'.count hw
  refine wpAny_bind (wpAny_lookBehind hoD (by rw [hdD]; exact pastItsLine_dict (Nat.le_trans hcD (by rw [sizeLine_eq]; omega))) ?_)
  refine wpAny_pure ?_
  exact H h' _ ⟨⟨_, (hs.2 x I.ne.symm).trans hx, rfl, hnc, rfl⟩, hn', I.ne, hw, I.hi⟩ fun b o hb e => (hs.2 b hb).trans e
end

def low838 (p : Addr × Obj) : Bool := Nat.blt p.1 838
theorem low838_lt {b : Addr} {x : Obj} (h : low838 (b, x) = true) : b < 838 := Nat.le_of_ble_eq_true h
theorem lookup_all (l : Frag) (a : Addr) (o : Obj) (h : ∀ p ∈ l, low838 p = true) (e : l.lookup a = some o) : a < 838 := by
  induction l with
  | nil => cases e
  | cons p l ih =>
    obtain ⟨b, x⟩ := p
    rw [List.lookup_cons] at e
    cases q : a == b with
    | true => rw [beq_iff_eq.mp q]; exact low838_lt (h _ List.mem_cons_self)
    | false => rw [q] at e; exact ih (fun p hp => h p (List.mem_cons_of_mem _ hp)) e
theorem KK_low (P : Params) : (KK pw P).all low838 = true := by kernel_rfl
theorem Ok.off {w : World} {h h' : Heap} (x : Ok w h) (k : ∀ b o, b < 838 → h.get? b = some o → h'.get? b = some o) : Ok w h' := by
  have hK : (KK pw w.params).In h' := by
    intro a o e
    exact k a o (lookup_all (KK pw w.params) a o (fun p hp => List.all_eq_true.mp (KK_low w.params) p hp) e) (x.K a o e)
  refine ⟨hK, ?_, ?_⟩
  · obtain ⟨mc, ⟨o, es, ep, ho, r⟩, q⟩ := x.lim
    exact ⟨mc, ⟨o, es, ep, k cStatics o (show (2 : Nat) < 838 by decide) ho, r⟩, q⟩
  · obtain ⟨mb, ⟨o, es, ep, ho, r⟩, q⟩ := x.blt
    exact ⟨mb, ⟨o, es, ep, k builtinsNs o (show (0 : Nat) < 838 by decide) ho, r⟩, q⟩
theorem Ok.set {w : World} {h h' : Heap} {dx : Addr} (x : Ok w h) (hi : 838 ≤ dx) (k : ∀ b o, b ≠ dx → h.get? b = some o → h'.get? b = some o) : Ok w h' :=
  x.off fun b o hb e => k b o (Nat.ne_of_lt (Nat.lt_of_lt_of_le hb hi)) e
section
variable {w : World} {A : Around} {E : Value → Shared → Prop} {h : Heap} {g : Array GenState} {d : Drawn} {k : Nat} {os : OsState} {env : Env} {pos : Pos}
/-- a call of any def of the text without cells, by what the binding looks up; an exception may leave it -/
theorem callE {f c : Addr} {nm q : String} {dd : Stmt} {dflt pm : Value} {args : List Value} {kw : List (Str × Value)} {binds : List (Str × Value)} {Q : Value → Shared → Prop}
    (x : Ok w h) (hf : h.get? f = some { cls := .type "function", data := .func (oFd nm q dd 3 dflt pm (.ref c)) }) (hc : h.CodeRec (.ref c) q) (hd : A.depth < recursionLimit)
    (hbind : ∀ S, peek (KK pw w.params) S (bindArgs (oFd nm q dd 3 dflt pm (.ref c)) ⟨args, kw⟩) = some binds) (hloc : (binds.all fun x => decide ((oScope dd).names.lookup x.1 = some .local)) = true)
    (H : ∀ h₁ k₁, Fr h h.objs.size h₁ (fun x => binds.reverse.lookup x) →
      wpAny (MM w) (A.deeper (envOf q (oScope dd) h.objs.size f (.ref c))) (execs (oBody dd) (envOf q (oScope dd) h.objs.size f (.ref c)))
        (fun fl s' => Q (flowVal fl) s') (fun e s' => wpAny (MM w) (A.deeper (envOf q (oScope dd) h.objs.size f (.ref c))) (leaving (envOf q (oScope dd) h.objs.size f (.ref c)) e) (fun _ s'' => E e s'') (fun e' s'' => E e' s'') s') ⟨h₁, g, d, k₁, os⟩)
    (hsc : ((oScope dd).isCoroutine || (oScope dd).isGenerator || (oScope dd).kind != .function || (oScope dd).names.any (fun x => x.2 == .cell)) = false) :
    wpAny (MM w) A (call (.ref f) args kw) Q E ⟨h, g, d, k, os⟩ := by
  simp only [Bool.or_eq_false_iff] at hsc
  obtain ⟨⟨⟨c1, c2⟩, c3⟩, c4⟩ := hsc
  have hk : (oScope dd).kind = .function := by
    revert c3; cases (oScope dd).kind <;> simp
  refine wpAny_call (codeAny_call_def (s := ⟨h, g, d, k, os⟩) (fd := oFd nm q dd 3 dflt pm (.ref c)) (body := oBody dd) (binds := binds) hd hf rfl x.lim hc rfl ?_ ?_ (locs hloc) (fun h₁ hns hk₁ => ?_) c1 c2 hk)
  · intro M A' E' Q' hq
    exact (Looks.of_peek (M := M) (h := h) x.K (hbind _)) A' Q' E' _ (fun _ _ e => e) hq
  · intro y hy e
    have := List.any_eq_false.mp c4 y hy
    rw [e] at this
    exact this rfl
  · exact wpAny_mono (H h₁ _ ⟨hns, hk₁, Nat.le_refl _⟩) (fun fl s' q => by cases fl <;> exact q) fun _ _ q => q
theorem callP {f c : Addr} {nm q : String} {dd : Stmt} {dflt pm : Value} {args : List Value} {kw : List (Str × Value)} {binds : List (Str × Value)} {Q : Value → Shared → Prop}
    (x : Ok w h) (hf : h.get? f = some { cls := .type "function", data := .func (oFd nm q dd 3 dflt pm (.ref c)) }) (hc : h.CodeRec (.ref c) q) (hd : A.depth < recursionLimit)
    (hbind : ∀ S, peek (KK pw w.params) S (bindArgs (oFd nm q dd 3 dflt pm (.ref c)) ⟨args, kw⟩) = some binds) (hloc : (binds.all fun x => decide ((oScope dd).names.lookup x.1 = some .local)) = true)
    (H : ∀ h₁ k₁, Fr h h.objs.size h₁ (fun x => binds.reverse.lookup x) →
      wpAny (MM w) (A.deeper (envOf q (oScope dd) h.objs.size f (.ref c))) (execs (oBody dd) (envOf q (oScope dd) h.objs.size f (.ref c)))
        (fun fl s' => Q (flowVal fl) s') (fun _ _ => False) ⟨h₁, g, d, k₁, os⟩)
    (hsc : ((oScope dd).isCoroutine || (oScope dd).isGenerator || (oScope dd).kind != .function || (oScope dd).names.any (fun x => x.2 == .cell)) = false) :
    wpAny (MM w) A (call (.ref f) args kw) Q E ⟨h, g, d, k, os⟩ :=
  callE x hf hc hd hbind hloc (fun h₁ k₁ F => wpAny_mono (H h₁ k₁ F) (fun _ _ q => q) fun _ _ q => q.elim) hsc
/-- the call of a method that is a def of the text -/
theorem rMeth {o : Expr} {name : Str} {apos : Pos} {args : List Expr} {f : Addr} {Q : Value → Shared → Prop} {s : Shared}
    (hbase : attributeBase o name env (eval o env) = eval o env)
    (hfew : methodCallForm (args.length + ([] : List Keyword).length) (backTo pos (starEach args env)) (backToKw pos (keywordEach [] env)) = true)
    (hline : (apos.endLine == pos.line) = true)
    (H : wpAny (MM w) A (eval o env) (fun ov s₁ => ∃ x dx C names mA, ov = .ref x ∧ Ok w s₁.heap ∧ IN s₁.heap x dx C names mA ∧ plainCls (KK pw w.params) C = true ∧ findIn (KK pw w.params) (.ref C) name = some (some (.ref f)) ∧ typeIn (KK pw w.params) (.ref f) = some (.type "function") ∧ mA name = none ∧
      wpAny (MM w) A (callWith pos (.ref f) [.ref x] (backTo pos (starEach args env)) []) Q E s₁) E s) :
    wpAny (MM w) A (eval (.Call (.Attribute o name apos) args [] pos) env) Q E s := by
  rw [arm_eval_Call, hbase]
  refine wpAny_bind (wpAny_mono H (fun ov s₁ h₁ => ?_) fun _ _ e => e)
  obtain ⟨x, dx, C, names, mA, rfl, ok, I, hp, hf, ht, hm, hc⟩ := h₁
  refine wpAny_bind (wpAny_standAt ?_)
  have hpos : methodCallPos true o env apos pos = pure pos := by unfold methodCallPos; simp [hline]
  unfold methodCall
  rw [hfew]
  obtain ⟨ox, od, I', _, _, hl⟩ := I.inst
  simp only [plainCls, Bool.and_eq_true, beq_iff_eq] at hp
  obtain ⟨⟨⟨⟨h1, h2⟩, h3⟩, h4⟩, h5⟩ := hp
  refine wpAny_bind (wpAny_holding (method_fn ok.K I' h3 h5 hf ht (by simp only [shadowIn, hl, hm]; rfl) ?_))
  exact wpAny_bind (wpAny_of_eq hpos hc)
end
section
variable {w : World} {A : Around} {E : Value → Shared → Prop} {h : Heap} {g : Array GenState} {d : Drawn} {k : Nat} {os : OsState} {env : Env} {pos : Pos}
theorem cwM1 (o : Obj) {a : Addr} {first : List Value} {e : Expr} {rest : List Expr} {s : Shared} {Q : Value → Shared → Prop} (he : starEach (e :: rest) env = (false, eval e env) :: starEach rest env)
    (H : wpAny (MM w) A (spliced (backTo pos (starEach (e :: rest) env))) (fun vs s₁ => (s₁.heap.get? a = some o ∧ o.data = .func (fdOf o)) ∧ wpAny (MM w) A (call (.ref a) (first ++ vs)) Q E s₁) E s) :
    wpAny (MM w) A (callWith pos (.ref a) first (backTo pos (starEach (e :: rest) env)) []) Q E s := by
  rw [he] at H ⊢
  exact Calls.callWith_function (Calls.evalArgs_plain H)
theorem cwM0 (o : Obj) {a : Addr} {first : List Value} {s : Shared} {Q : Value → Shared → Prop} (ho : s.heap.get? a = some o ∧ o.data = .func (fdOf o)) (H : wpAny (MM w) A (call (.ref a) first) Q E s) :
    wpAny (MM w) A (callWith pos (.ref a) first (backTo pos (starEach [] env)) []) Q E s := by
  refine Calls.callWith_function (o := o) (fd := fdOf o) (evalArgs_nil3 ⟨ho, ?_⟩)
  rw [List.append_nil]; exact H
end
theorem ifT {b : Bool} {X Y : Prop} (hb : b = true) (h : X) : if b = true then X else Y := by rw [if_pos hb]; exact h
theorem ifF {b : Bool} {X Y : Prop} (hb : b = false) (h : Y) : if b = true then X else Y := by rw [if_neg (by rw [hb]; decide)]; exact h
theorem isNotT {M : Model} {A : Around} {E : Value → Shared → Prop} {s : Shared} {a b : String} {Q : Value → Shared → Prop} (h : Q (.bool (!(Value.type a == Value.type b))) s) : wpAny M A (compareOp .IsNot (.type a) (.type b)) Q E s := wpAny_pure h
theorem isT {M : Model} {A : Around} {E : Value → Shared → Prop} {s : Shared} {a b : String} {Q : Value → Shared → Prop} (h : Q (.bool (Value.type a == Value.type b)) s) : wpAny M A (compareOp .Is (.type a) (.type b)) Q E s := wpAny_pure h
theorem neg_int' {w : World} {A : Around} {E : Value → Shared → Prop} {h : Heap} {g : Array GenState} {d : Drawn} {k : Nat} {os : OsState} {Q : Value → Shared → Prop} {a : Int} {t : Tok} (H : ∀ t k', Q (.int (-a) t) ⟨h, g, d, k', os⟩) : wpAny (MM w) A (unaryOp .USub (.int a t)) Q E ⟨h, g, d, k, os⟩ := neg_int (H _ _)
theorem isNone_s {M : Model} {A : Around} {E : Value → Shared → Prop} {s : Shared} {x : Str} {t : Tok} {Q : Value → Shared → Prop} (h : Q (.bool false) s) : wpAny M A (compareOp .Is (.str x t) .none) Q E s := is_none_ne (by intro q; cases q) h
theorem isNone_r {M : Model} {A : Around} {E : Value → Shared → Prop} {s : Shared} {a : Addr} {Q : Value → Shared → Prop} (h : Q (.bool false) s) : wpAny M A (compareOp .Is (.ref a) .none) Q E s := is_none_ne (by intro q; cases q) h
theorem isNone_i {M : Model} {A : Around} {E : Value → Shared → Prop} {s : Shared} {n : Int} {t : Tok} {Q : Value → Shared → Prop} (h : Q (.bool false) s) : wpAny M A (compareOp .Is (.int n t) .none) Q E s := is_none_ne (by intro q; cases q) h
theorem isNone_b {M : Model} {A : Around} {E : Value → Shared → Prop} {s : Shared} {b : Bool} {Q : Value → Shared → Prop} (h : Q (.bool false) s) : wpAny M A (compareOp .Is (.bool b) .none) Q E s := is_none_ne (by intro q; cases q) h
theorem isnotNone_s {M : Model} {A : Around} {E : Value → Shared → Prop} {s : Shared} {x : Str} {t : Tok} {Q : Value → Shared → Prop} (h : Q (.bool true) s) : wpAny M A (compareOp .IsNot (.str x t) .none) Q E s := isnot_none_ne (by intro q; cases q) h
theorem isnotNone_r {M : Model} {A : Around} {E : Value → Shared → Prop} {s : Shared} {a : Addr} {Q : Value → Shared → Prop} (h : Q (.bool true) s) : wpAny M A (compareOp .IsNot (.ref a) .none) Q E s := isnot_none_ne (by intro q; cases q) h
theorem isnotNone_i {M : Model} {A : Around} {E : Value → Shared → Prop} {s : Shared} {n : Int} {t : Tok} {Q : Value → Shared → Prop} (h : Q (.bool true) s) : wpAny M A (compareOp .IsNot (.int n t) .none) Q E s := isnot_none_ne (by intro q; cases q) h
theorem isnotNone_b {M : Model} {A : Around} {E : Value → Shared → Prop} {s : Shared} {b : Bool} {Q : Value → Shared → Prop} (h : Q (.bool true) s) : wpAny M A (compareOp .IsNot (.bool b) .none) Q E s := isnot_none_ne (by intro q; cases q) h
local macro_rules | `(tactic| walk_at "mt") => `(tactic| first
  | walk_at "ms"
  | with_reducible refine isTrue_and ?_
  | with_reducible refine isTrue_or ?_
  | with_reducible refine isTrue_and_nil ?_
  | with_reducible refine isTrue_or_nil ?_
  | with_reducible refine isTrue_not ?_
  | (with_reducible refine ifF (by kernel_rfl!) ?_)
  | (with_reducible refine ifT (by kernel_rfl!) ?_)
  | (with_reducible refine PyProof.Rows.callWith_type1 ?_ (by with_unfolding_all rfl) (by with_unfolding_all rfl))
  | (with_reducible refine call_type_of (by first | exact typeIs_int _ _ _ | exact typeIs_str _ _ _) (by kernel_rfl!) ?_)
  | with_reducible refine isNotT ?_
  | with_reducible refine isT ?_
  | with_reducible refine call_int_int ?_
  | with_reducible refine wpAny_Constant_none ?_
  | with_reducible refine wpAny_Constant_bool ?_
  | with_reducible refine is_none_none ?_
  | with_reducible refine isnot_none_none ?_
  | with_reducible refine isNone_s ?_
  | with_reducible refine isNone_r ?_
  | with_reducible refine isNone_i ?_
  | with_reducible refine isNone_b ?_
  | with_reducible refine isnotNone_s ?_
  | with_reducible refine isnotNone_r ?_
  | with_reducible refine isnotNone_i ?_
  | with_reducible refine isnotNone_b ?_
  | with_reducible refine wpAny_UnaryOp ?_
  | (with_reducible refine neg_int' ?_; intro _ _)
  | with_reducible refine wpAny_execs_nil ?_
  | with_reducible refine wpAny_truthy_bool ?_
  | with_reducible refine ge_int ?_
  | with_reducible refine le_int ?_
  | with_reducible refine eq_str ?_
  | with_reducible refine ne_str ?_
  | (with_reducible refine Attribute_any_ ?_ (by with_unfolding_all rfl))
  | (with_reducible refine IN.get (by assumption) (by assumption) (by assumption) (by kernel_rfl!) (by walk_at "lk") rfl ?_; intro _))
section
variable {w : World} {A : Around} {E : Value → Shared → Prop} {h : Heap} {g : Array GenState} {d : Drawn} {k : Nat} {os : OsState} {env : Env} {pos : Pos}
theorem index_spec {t t2 : Tok} {z : Str} (hd : A.depth < recursionLimit) (ok : Ok w h) :
    wpAny (MM w) A (call (.ref 83) [.int 1 t, .str z t2]) (fun v s' => (∃ u, v = .int 1 u) ∧ Keeps ⟨h, g, d, k, os⟩ s') E ⟨h, g, d, k, os⟩ := by
  refine callF' (nm := "_index") (dd := oSt pw 9) (pm := .str "io" 399) (c := 82) (binds := [("n", .int 1 t), ("what", .str z t2)]) ok (a83 ok) (c82 ok) hd (by kernel_rfl!) (by kernel_rfl!) (fun h₁ k₁ F => ?_) (by kernel_rfl!)
  have ok1 := ok.fr F
  refine wpAny_execs_cons ?_
  repeat walk_at "mt"
  refine rSt F (fun h₂ k₂ F2 kk2 => ?_) (by kernel_rfl!) (by kernel_rfl!)
  have ok2 := ok.fr F2
  clear F ok1
  repeat walk_at "mt"
  exact ⟨⟨_, rfl⟩, kps F2.keep⟩
end
def sioN : List Str := ["_StringIO__newline", "_StringIO__buf", "_StringIO__pos"]
theorem pc617 (P : Params) : plainCls (KK pw P) 617 = true := by kernel_rfl
theorem pc752 (P : Params) : plainCls (KK pw P) 752 = true := by kernel_rfl
theorem slice_one {x : Str} {i c : Nat} (h : x.cps[i]? = some c) : Txt.slice x (some (i : Int)) (some ((i + 1 : Nat) : Int)) = ⟨#[c]⟩ := by
  have hlt : i < x.length := (Array.getElem?_eq_some_iff.mp h).1
  unfold Txt.slice
  rw [StrLaws.strSliceIndices_plain (Nat.le_succ i) hlt]
  have e : i + 1 - i = 1 := by omega
  rw [e]
  split
  · rename_i hl
    simp only [beq_self_eq_true, Bool.true_and, beq_iff_eq, List.length_map, List.length_range] at hl
    obtain ⟨⟨l⟩⟩ := x
    have hl' : l.length = 1 := hl.symm
    match l, hl', h, hlt with
    | [a], _, h, hlt =>
      have : i = 0 := by simp only [Str.length] at hlt; simp at hlt; omega
      subst this
      simp at h; rw [h]
  · simp [h]
structure SIO (h : Heap) (y dy : Addr) (x : Str) (i : Nat) : Prop where
  all : ∃ mB t u, IN h y dy 617 sioN mB ∧ mB "_StringIO__buf" = some (.str x t) ∧ mB "_StringIO__pos" = some (.int i u) ∧ mB "_StringIO__check" = none ∧ mB "read" = none
theorem SIO.keep {h h' : Heap} {y dy : Addr} {x : Str} {i : Nat} (I : SIO h y dy x i) (k : ∀ b o, h.get? b = some o → h'.get? b = some o) : SIO h' y dy x i :=
  let ⟨mB, t, u, a, r⟩ := I.all; ⟨mB, t, u, a.keep k, r⟩
section
variable {w : World} {A : Around} {E : Value → Shared → Prop} {h : Heap} {g : Array GenState} {d : Drawn} {k : Nat} {os : OsState} {env : Env} {pos : Pos}
theorem check_spec {y dy : Addr} {x : Str} {i : Nat} (hd : A.depth < recursionLimit) (ok : Ok w h) (S : SIO h y dy x i) :
    wpAny (MM w) A (call (.ref 401) [.ref y]) (fun v s' => v = .none ∧ Keeps ⟨h, g, d, k, os⟩ s') E ⟨h, g, d, k, os⟩ := by
  refine callP (nm := "__check") (q := "StringIO.__check") (dd := oSub (oSt pw 15) 3) (dflt := .none) (pm := .str "io" 399) (c := 400) (binds := [("self", .ref y)]) ok (a401 ok) (c400 ok) hd (fun _ => by kernel_rfl!) (by kernel_rfl!) (fun h₁ k₁ F => ?_) (by kernel_rfl!)
  have ok1 := ok.fr F
  obtain ⟨mB, t, u, I, e1, e2, e3⟩ := (S.keep F.keep).all
  have p := pc617 w.params
  refine wpAny_execs_cons ?_
  repeat walk_at "mt"
  exact ⟨rfl, kps F.keep⟩
end
section
variable {w : World} {A : Around} {E : Value → Shared → Prop} {h : Heap} {g : Array GenState} {d : Drawn} {k : Nat} {os : OsState} {env : Env} {pos : Pos}
theorem rSl2 {value e1 e2 : Expr} {x : Str} {t t1 t2 : Tok} {i j : Int} {p' : Pos} {Q : Value → Shared → Prop} (he1 : ∀ Q E, Q (.int i t1) ⟨h, g, d, k, os⟩ → wpAny (MM w) A (eval e1 env) Q E ⟨h, g, d, k, os⟩) (he2 : ∀ Q E, Q (.int j t2) ⟨h, g, d, k, os⟩ → wpAny (MM w) A (eval e2 env) Q E ⟨h, g, d, k, os⟩) (hsz : x.length ≤ sizeLine)
    (H : ∀ u h' k', (∀ b o, h.get? b = some o → h'.get? b = some o) → Q (.str (Txt.slice x (some i) (some j)) u) ⟨h', g, d, k', os⟩)
    (hs : ∀ r, subscripted (.Slice (some e1) (some e2) none p') false (.str x t) r = operate [r, .str x t] (getItem (.str x t) r)) (ht : ∀ r, letTemporaryGo value (.str x t) r = pure ()) :
    wpAny (MM w) A (eval (.Slice (some e1) (some e2) none p') env) (fun iv s₂ => wpAny (MM w) A (subscriptTail value (.Slice (some e1) (some e2) none p') (.str x t) iv) Q E s₂) E ⟨h, g, d, k, os⟩ := by
  refine wpAny_Slice (wpAny_evalPart_some (he1 _ _ (wpAny_evalPart_some (he2 _ _ (wpAny_evalPart_none ?_)))))
  refine tail_of_ItemOn (SBH.sliceItem_ss (s := ⟨h, g, d, k, os⟩) (P := fun h' => ∀ b o, h.get? b = some o → h'.get? b = some o) (fun _ ob q b o e => Heap.get?_push_of_some _ (q b o e)) (fun _ _ e => e) (fun h' t' k q => H t' h' k q) hsz) (hs _) ht
theorem read_spec {y dy : Addr} {x : Str} {i : Nat} {t : Tok} (hd : A.depth + 1 < recursionLimit) (ok : Ok w h) (S : SIO h y dy x i) (hx : x.length ≤ 9999) (hi : i ≤ x.length) :
    wpAny (MM w) A (call (.ref 563) [.ref y, .int 1 t]) (fun v s' => ∃ u h' k', s' = ⟨h', g, d, k', os⟩ ∧ (∀ b o, b ≠ dy → h.get? b = some o → h'.get? b = some o) ∧
      ((i = x.length ∧ v = .str "" u ∧ SIO h' y dy x i) ∨ (∃ c, x.cps[i]? = some c ∧ v = .str ⟨#[c]⟩ u ∧ SIO h' y dy x (i + 1)))) E ⟨h, g, d, k, os⟩ := by
  refine callP (nm := "read") (q := "StringIO.read") (dd := oSub (oSt pw 15) 25) (dflt := .ref 556) (pm := .str "io" 399) (c := 562) (binds := [("self", .ref y), ("size", .int 1 t)]) ok (a563 ok) (c562 ok) (by omega) (fun _ => by kernel_rfl!) (by kernel_rfl!) (fun h₁ k₁ F => ?_) (by kernel_rfl!)
  have ok1 := ok.fr F
  have S1 := S.keep F.keep
  have p := pc617 w.params
  refine wpAny_execs_cons ?_
  repeat walk_at "mt"
  refine cwF (ob83 pw w.params) (by with_unfolding_all rfl) ?_
  repeat walk_at "mt"
  refine ⟨⟨a83 ok1, rfl⟩, ?_⟩
  refine wpAny_mono (index_spec (by show A.depth + 1 < _; omega) ok1) (fun v s' hv => ?_) (fun _ _ e => e)
  obtain ⟨⟨u, rfl⟩, h₂, k₂, rfl, hk2⟩ := hv
  refine rSt (F.kept hk2) (fun h₃ k₃ F3 kk3 => ?_) (by kernel_rfl!) (by kernel_rfl!)
  have ok3 := ok.fr F3
  have S3 := S.keep F3.keep
  clear F ok1 S1
  refine wpAny_execs_cons ?_
  refine wpAny_Expr_any ?_ (by with_unfolding_all rfl) (by with_unfolding_all rfl)
  refine rMeth (f := 401) (by with_unfolding_all rfl) (by with_unfolding_all rfl) (by with_unfolding_all rfl) ?_
  repeat walk_at "mt"
  obtain ⟨mB, tb, tp, I, e1, e2, e3, e4⟩ := S3.all
  refine ⟨y, dy, 617, sioN, mB, rfl, ok3, I, p, by kernel_rfl!, by kernel_rfl!, e3, ?_⟩
  refine cwM0 (ob401 pw w.params) ⟨a401 ok3, rfl⟩ ?_
  refine wpAny_mono (check_spec (by show A.depth + 1 < _; omega) ok3 S3) (fun v s' hv => ?_) (fun _ _ e => e)
  obtain ⟨rfl, h₄, k₄, rfl, hk4⟩ := hv
  have F4 := F3.kept hk4
  have ok4 := ok3.keeps hk4
  have I4 := I.keep hk4
  clear F3 ok3 I S3
  repeat walk_at "mt"
  refine rSt F4 (fun h₅ k₅ F5 kk5 => ?_) (by kernel_rfl!) (by kernel_rfl!)
  have ok5 := ok.fr F5
  obtain ⟨mB, tb, tp, I, e1, e2, e3, e4⟩ := (S.keep F5.keep).all
  clear F4 ok4 I4
  repeat walk_at "mt"
  refine len_str (by omega) ?_
  refine rSt F5 (fun h₆ k₆ F6 kk6 => ?_) (by kernel_rfl!) (by kernel_rfl!)
  clear F5 ok5 I
  have ok6 := ok.fr F6
  obtain ⟨mB, tb, tp, I, e1, e2, e3, e4⟩ := (S.keep F6.keep).all
  repeat walk_at "mt"
  refine split_bool (fun hc => ?_) (fun hc => ?_)
  · have hc := of_decide_eq_true hc
    repeat walk_at "mt"
    refine ⟨_, h₆, _, rfl, fun b o _ e => F6.keep b o e, .inl ⟨by omega, rfl, S.keep F6.keep⟩⟩
  · have hc := of_decide_eq_false hc
    have hlt : i < x.length := by omega
    obtain ⟨c, hcc⟩ : ∃ c, x.cps[i]? = some c := ⟨_, Array.getElem?_eq_getElem hlt⟩
    refine wpAny_execs_nil ?_
    repeat walk_at "mt"
    have hone := slice_one hcc
    have hdy : dy < h.objs.size := by obtain ⟨_, _, _, I0, _⟩ := S.all; exact I0.ns.ns.lt
    have hyy : ∀ m h₇, Fr h h.objs.size h₇ m → True := fun _ _ _ => trivial
    refine split_bool (fun hc2 => ?_) (fun hc2 => ?_)
    · refine isTrue_and_nil ?_
      rw [if_pos rfl]
      refine wpAny_execs_cons ?_
      repeat walk_at "ms"
      refine rSt F6 (fun h₇ k₇ F7 kk7 => ?_) (by kernel_rfl!) (by kernel_rfl!)
      refine wpAny_execs_nil ?_
      clear F6 I ok6 e1 e2 e3 e4
      have ok7 := ok.fr F7
      obtain ⟨mB, tb, tp, I, e1, e2, e3, e4⟩ := (S.keep F7.keep).all
      refine wpAny_execs_cons ?_
      refine plainObj_wpAny_Assign_Attribute ?_ (by kernel_rfl!)
      repeat walk_at "ms"
      refine I.set ok7 p (by kernel_rfl!) (by decide +kernel) (by decide) (fun h₈ k₈ I8 kk8 => ?_)
      have ok8 := ok7.set I.hi kk8
      have F8 : Fr ({} : Heap) h.objs.size h₈ _ := ⟨F7.ns.at' fun o e => kk8 _ o (Nat.ne_of_gt hdy) e, fun b o q => by simp [Heap.get?] at q, Nat.zero_le _⟩
      have S8 : SIO h₈ y dy x (i + 1) := ⟨_, tb, _, I8, by walk_at "lk", by with_unfolding_all rfl, by walk_at "lk", by walk_at "lk"⟩
      have keep8 : ∀ b o, b ≠ dy → h.get? b = some o → h₈.get? b = some o := fun b o n e => kk8 b o n (F7.keep b o e)
      clear F7 I ok7
      refine wpAny_execs_cons ?_
      refine wpAny_Return_some ?_
      refine Subscript_ ?_
      repeat walk_at "mt"
      refine rSl2 (i := i) (j := ((i + 1 : Nat) : Int)) (fun Q E q => ld F8 (by walk_at "lk") q (by kernel_rfl!) (by kernel_rfl!) (by decide +kernel)) (fun Q E q => ld F8 (by with_unfolding_all rfl) q (by kernel_rfl!) (by kernel_rfl!) (by decide +kernel)) (by rw [sizeLine_eq]; omega) (fun u' h₉ k₉ kk9 => ?_) (fun _ => by with_unfolding_all rfl) (fun _ => by with_unfolding_all rfl)
      rw [hone]
      exact ⟨_, h₉, _, rfl, fun b o n e => kk9 _ _ (keep8 b o n e), .inr ⟨c, hcc, rfl, S8.keep kk9⟩⟩
    · have hc2 := of_decide_eq_false hc2
      have hlast : x.length = i + 1 := by omega
      rw [if_neg (by decide)]
      refine wpAny_execs_nil ?_
      rw [hlast] at F6
      have F7 := F6
      have ok7 := ok6
      clear F6 ok6
      refine wpAny_execs_cons ?_
      refine plainObj_wpAny_Assign_Attribute ?_ (by kernel_rfl!)
      repeat walk_at "ms"
      refine I.set ok7 p (by kernel_rfl!) (by decide +kernel) (by decide) (fun h₈ k₈ I8 kk8 => ?_)
      have ok8 := ok7.set I.hi kk8
      have F8 : Fr ({} : Heap) h.objs.size h₈ _ := ⟨F7.ns.at' fun o e => kk8 _ o (Nat.ne_of_gt hdy) e, fun b o q => by simp [Heap.get?] at q, Nat.zero_le _⟩
      have S8 : SIO h₈ y dy x (i + 1) := ⟨_, tb, _, I8, by walk_at "lk", by with_unfolding_all rfl, by walk_at "lk", by walk_at "lk"⟩
      have keep8 : ∀ b o, b ≠ dy → h.get? b = some o → h₈.get? b = some o := fun b o n e => kk8 b o n (F7.keep b o e)
      clear F7 I ok7
      refine wpAny_execs_cons ?_
      refine wpAny_Return_some ?_
      refine Subscript_ ?_
      repeat walk_at "mt"
      refine rSl2 (i := i) (j := ((i + 1 : Nat) : Int)) (fun Q E q => ld F8 (by walk_at "lk") q (by kernel_rfl!) (by kernel_rfl!) (by decide +kernel)) (fun Q E q => ld F8 (by with_unfolding_all rfl) q (by kernel_rfl!) (by kernel_rfl!) (by decide +kernel)) (by rw [sizeLine_eq]; omega) (fun u' h₉ k₉ kk9 => ?_) (fun _ => by with_unfolding_all rfl) (fun _ => by with_unfolding_all rfl)
      rw [hone]
      exact ⟨_, h₉, _, rfl, fun b o n e => kk9 _ _ (keep8 b o n e), .inr ⟨c, hcc, rfl, S8.keep kk9⟩⟩
end
def lexN : List Str := ["instream", "infile", "posix", "eof", "commenters", "wordchars", "whitespace", "whitespace_split", "quotes", "escape", "escapedquotes", "state", "pushback", "lineno", "debug", "token", "filestack", "source", "_punctuation_chars"]
/-- the fixed part of the reader's names -/
structure LexFix (mA : Str → Option Value) (y rp rf : Addr) (W : Str) : Prop where
  instream : mA "instream" = some (.ref y)
  posix : mA "posix" = some (.bool true)
  eof : mA "eof" = some .none
  commenters : ∃ t, mA "commenters" = some (.str "" t)
  wordchars : ∃ t, mA "wordchars" = some (.str W t)
  whitespace : ∃ t, mA "whitespace" = some (.str " \t\r\n" t)
  wsplit : mA "whitespace_split" = some (.bool true)
  quotes : ∃ t, mA "quotes" = some (.str "'\"" t)
  escape : ∃ t, mA "escape" = some (.str "\\" t)
  equotes : ∃ t, mA "escapedquotes" = some (.str "\"" t)
  pushback : mA "pushback" = some (.ref rp)
  debug : ∃ t, mA "debug" = some (.int 0 t)
  filestack : mA "filestack" = some (.ref rf)
  source : mA "source" = some .none
  punct : ∃ t, mA "_punctuation_chars" = some (.str "" t)
  none : ∀ n, n ∉ lexN → mA n = .none
section
variable {w : World} {A : Around} {E : Value → Shared → Prop} {h : Heap} {g : Array GenState} {d : Drawn} {k : Nat} {os : OsState} {env : Env} {pos : Pos} {x dx : Addr} {mA : Str → Option Value} {t : Tok}
theorem codeP {f c : Addr} {nm q : String} {dd : Stmt} {dflt pm : Value} {args : List Value} {kw : List (Str × Value)} {binds : List (Str × Value)} {R : Result → Shared → Prop}
    (x : Ok w h) (hf : h.get? f = some { cls := .type "function", data := .func (oFd nm q dd 3 dflt pm (.ref c)) }) (hc : h.CodeRec (.ref c) q) (hd : A.depth < recursionLimit)
    (hbind : ∀ S, peek (KK pw w.params) S (bindArgs (oFd nm q dd 3 dflt pm (.ref c)) ⟨args, kw⟩) = some binds) (hloc : (binds.all fun x => decide ((oScope dd).names.lookup x.1 = some .local)) = true)
    (H : ∀ h₁ k₁, Fr h h.objs.size h₁ (fun x => binds.reverse.lookup x) →
      wpAny (MM w) (A.deeper (envOf q (oScope dd) h.objs.size f (.ref c))) (execs (oBody dd) (envOf q (oScope dd) h.objs.size f (.ref c)))
        (fun fl s' => R (.ok (.ret (flowVal fl))) s') (fun _ _ => False) ⟨h₁, g, d, k₁, os⟩)
    (hsc : ((oScope dd).isCoroutine || (oScope dd).isGenerator || (oScope dd).kind != .function || (oScope dd).names.any (fun x => x.2 == .cell)) = false) :
    codeAny (MM w) A (.call (.ref f) ⟨args, kw⟩) R ⟨h, g, d, k, os⟩ := by
  simp only [Bool.or_eq_false_iff] at hsc
  obtain ⟨⟨⟨c1, c2⟩, c3⟩, c4⟩ := hsc
  have hk : (oScope dd).kind = .function := by
    revert c3; cases (oScope dd).kind <;> simp
  refine codeAny_call_def (s := ⟨h, g, d, k, os⟩) (fd := oFd nm q dd 3 dflt pm (.ref c)) (body := oBody dd) (binds := binds) hd hf rfl x.lim hc rfl ?_ ?_ (locs hloc) (fun h₁ hns hk₁ => ?_) c1 c2 hk
  · intro M A' E' Q' hq
    exact (Looks.of_peek (M := M) (h := h) x.K (hbind _)) A' Q' E' _ (fun _ _ e => e) hq
  · intro y hy e
    have := List.any_eq_false.mp c4 y hy
    rw [e] at this
    exact this rfl
  · exact wpAny_mono (H h₁ _ ⟨hns, hk₁, Nat.le_refl _⟩) (fun fl s' q => by cases fl <;> exact q) fun _ _ q => q.elim
theorem punct_get {expr : Bool} {Q : Value → Shared → Prop} (hd : A.depth + 2 < recursionLimit) (ok : Ok w h) (I : IN h x dx 752 lexN mA) (hp : mA "_punctuation_chars" = some (.str "" t)) (hn : mA "punctuation_chars" = none)
    (H : ∀ h' k', (∀ b o, h.get? b = some o → h'.get? b = some o) → Q (.str "" t) ⟨h', g, d, k', os⟩) :
    wpAny (MM w) A (getAttr (.ref x) "punctuation_chars" expr) Q E ⟨h, g, d, k, os⟩ := by
  obtain ⟨ox, od, I', _, _, hl⟩ := I.inst
  have p := pc752 w.params
  simp only [plainCls, Bool.and_eq_true, beq_iff_eq] at p
  obtain ⟨⟨⟨⟨h1, h2⟩, h3⟩, h4⟩, h5⟩ := p
  refine get_bind (s := ⟨h, g, d, k, os⟩) (g := .builtin "property.__get__") (a := .ref 684) ok.K I' h3 ?_ h5 ?_
  · kernel_rfl!
  · refine wpAny_call (prop_get (s := ⟨h, g, d, k + 1, os⟩) (fget := 683) (rest := [.none, .none, .none, (.str "punctuation_chars" 1148), (.bool false)]) ok.K (by kernel_rfl!) ?_)
    refine codeP (A := A.in1) (nm := "punctuation_chars") (q := "shlex.punctuation_chars") (dd := oSub (oSt pw 25) 1) (dflt := .none) (pm := .str "cpy313.shlex" 1115) (c := 682) (binds := [("self", .ref x)]) ok (a683 ok) (c682 ok) (by show A.depth < _; omega) (fun _ => by kernel_rfl!) (by kernel_rfl!) (fun h₁ k₁ F => ?_) (by kernel_rfl!)
    have ok1 := ok.fr F
    have I1 := I.keep F.keep
    have p := pc752 w.params
    refine wpAny_execs_cons ?_
    repeat walk_at "mt"
    show wpAny _ _ (handedOut (.str "" t)) _ _ _
    rw [handedOut_of rfl]
    exact wpAny_pure (H h₁ _ F.keep)
end
/-- the reader -/
theorem IN.off {h h' : Heap} {x dx C c : Addr} {names : List Str} {mA : Str → Option Value} (I : IN h x dx C names mA) (hx : x ≠ c) (hdx : dx ≠ c) (k : ∀ b o, b ≠ c → h.get? b = some o → h'.get? b = some o) : IN h' x dx C names mA :=
  ⟨let ⟨ox, a, r⟩ := I.at_; ⟨ox, k _ _ hx a, r⟩, I.ns.at fun o => k _ o hdx, I.ne, I.wi, I.hi⟩
theorem SIO.off {h h' : Heap} {y dy c : Addr} {x : Str} {i : Nat} (I : SIO h y dy x i) (hx : y ≠ c) (hdx : dy ≠ c) (k : ∀ b o, b ≠ c → h.get? b = some o → h'.get? b = some o) : SIO h' y dy x i :=
  let ⟨mB, t, u, a, r⟩ := I.all; ⟨mB, t, u, a.off hx hdx k, r⟩
def LX (h : Heap) (x dx y dy rp rf : Addr) (W line : Str) (i : Nat) (st : Value) (tk : Str) : Prop :=
  ∃ mA t, IN h x dx 752 lexN mA ∧ LexFix mA y rp rf W ∧ mA "state" = some st ∧ mA "token" = some (.str tk t) ∧ SIO h y dy line i ∧ (dx ≠ dy ∧ x ≠ dy ∧ y ≠ dx) ∧ (∃ n u, mA "lineno" = some (.int n u))
theorem LX.keep {h h' : Heap} {x dx y dy rp rf : Addr} {W line : Str} {i : Nat} {st : Value} {tk : Str} (X : LX h x dx y dy rp rf W line i st tk) (k : ∀ b o, h.get? b = some o → h'.get? b = some o) : LX h' x dx y dy rp rf W line i st tk :=
  let ⟨mA, t, I, f, a, b, S, r⟩ := X; ⟨mA, t, I.keep k, f, a, b, S.keep k, r⟩
def lpBody : List Stmt := match oBody (oSub (oSt pw 25) 6) with | _ :: _ :: .While _ b _ _ :: _ => b | _ => []
abbrev rtEnv (L : Addr) : Env := envOf (("shlex.read_token" : String) : Str) (oScope (oSub (oSt pw 25) 6)) L 720 (.ref 719)
section
variable {w : World} {A : Around} {E : Value → Shared → Prop} {h : Heap} {g : Array GenState} {d : Drawn} {k : Nat} {os : OsState} {env : Env} {pos : Pos} {x dx y dy rp rf L : Addr} {W line : Str} {m : Str → Option Value}
/-- the head of a turn: the next sign is read -/
theorem turn_pre {i : Nat} {st : Value} {tk : Str} {te : Tok} {q : Bool} {Q : Flow → Shared → Prop} (hd : A.depth + 9 < recursionLimit) (ok : Ok w h) (F : Fr ({} : Heap) L h m) (hL : 838 ≤ L) (hLx : L ≠ dx ∧ L ≠ x) (hLy : L ≠ dy ∧ L ≠ y) (X : LX h x dx y dy rp rf W line i st tk) (hx : line.length ≤ 9999) (hi : i ≤ line.length)
    (m1 : m "self" = some (.ref x)) (m2 : m "quoted" = some (.bool q)) (m3 : m "escapedstate" = some (.str " " te)) (hnl : line.cps[i]? ≠ some 10)
    (H : ∀ h' k' m' u cs i', Ok w h' → Fr ({} : Heap) L h' m' → m' "self" = some (.ref x) → m' "quoted" = some (.bool q) → m' "escapedstate" = some (.str " " te) → m' "nextchar" = some (.str cs u) →
      LX h' x dx y dy rp rf W line i' st tk → (∀ b o, b ≠ L → b ≠ dy → h.get? b = some o → h'.get? b = some o) →
      ((i = line.length ∧ cs = "" ∧ i' = i) ∨ ∃ c, line.cps[i]? = some c ∧ cs = ⟨#[c]⟩ ∧ i' = i + 1) →
      wpAny (MM w) A (execs (lpBody.drop 3) (rtEnv L)) Q (fun _ _ => False) ⟨h', g, d, k', os⟩) :
    wpAny (MM w) A (execs lpBody (rtEnv L)) Q (fun _ _ => False) ⟨h, g, d, k, os⟩ := by
  obtain ⟨mA, tt, I, Fx, hst, htk, S, ⟨hxy, hxdy, hydx⟩, n, u, hln⟩ := X
  have Fx0 := Fx
  obtain ⟨f1, f2, f3, ⟨_, f4⟩, ⟨_, f5⟩, ⟨_, f6⟩, f7, ⟨_, f8⟩, ⟨_, f9⟩, ⟨_, f10⟩, f11, ⟨_, f12⟩, f13, f14, ⟨_, f15⟩, f16⟩ := Fx
  have p := pc752 w.params
  have p6 := pc617 w.params
  refine wpAny_execs_cons ?_
  repeat walk_at "mt"
  refine isTrue_plain ?_ (by with_unfolding_all rfl)
  repeat walk_at "mt"
  refine punct_get (by omega) ok I f15 (f16 _ (by decide +kernel)) (fun h₁ k₁ kk1 => ?_)
  refine PySem.P.truthy_str (by decide) ?_
  have F1 : Fr ({} : Heap) L h₁ m := ⟨F.ns.keeps kk1, fun b o q => by simp [Heap.get?] at q, Nat.zero_le _⟩
  have ok1 := ok.keeps kk1
  have I1 := I.keep kk1
  have S1 := S.keep kk1
  clear F ok I S
  repeat walk_at "mt"
  refine rMeth (f := 563) (by with_unfolding_all rfl) (by with_unfolding_all rfl) (by with_unfolding_all rfl) ?_
  repeat walk_at "mt"
  obtain ⟨mB, tb, tp, J, e1, e2, e3, e4⟩ := S1.all
  refine ⟨y, dy, 617, sioN, mB, rfl, ok1, J, p6, by kernel_rfl!, by kernel_rfl!, e4, ?_⟩
  refine cwM1 (ob563 pw w.params) (by with_unfolding_all rfl) ?_
  repeat walk_at "mt"
  refine ⟨⟨a563 ok1, rfl⟩, ?_⟩
  refine wpAny_mono (read_spec (by omega) ok1 S1 hx hi) (fun v s' hv => ?_) (fun _ _ e => e)
  obtain ⟨u2, h₂, k₂, rfl, kk2, hcase⟩ := hv
  have ok2 := ok1.set J.hi kk2
  have I2 : IN h₂ x dx 752 lexN mA := I1.off hxdy hxy kk2
  have F2 : Fr ({} : Heap) L h₂ m := ⟨F1.ns.at' fun o e => kk2 _ o hLy.1 e, fun b o q => by simp [Heap.get?] at q, Nat.zero_le _⟩
  obtain ⟨cs, i', rfl, S2, hcs⟩ : ∃ cs i', v = .str cs u2 ∧ SIO h₂ y dy line i' ∧ ((i = line.length ∧ cs = "" ∧ i' = i) ∨ ∃ c, line.cps[i]? = some c ∧ cs = ⟨#[c]⟩ ∧ i' = i + 1) := by
    rcases hcase with ⟨a, b, c⟩ | ⟨c, a, b, e⟩
    · exact ⟨_, _, b, c, .inl ⟨a, rfl, rfl⟩⟩
    · exact ⟨_, _, b, e, .inr ⟨c, a, rfl, rfl⟩⟩
  clear F1 ok1 I1 S1 J
  refine rSt F2 (fun h₃ k₃ F3 kk3 => ?_) (by kernel_rfl!) (by kernel_rfl!)
  have kk3' : ∀ b o, b ≠ L → h₂.get? b = some o → h₃.get? b = some o := fun b o n e => kk3 b o e n
  have ok3 : Ok w h₃ := ok2.set hL kk3'
  have I3 : IN h₃ x dx 752 lexN mA := I2.off (Ne.symm hLx.2) (Ne.symm hLx.1) kk3'
  have S3 : SIO h₃ y dy line i' := S2.off (Ne.symm hLy.2) (Ne.symm hLy.1) kk3'
  clear F2 ok2 I2 S2
  repeat walk_at "mt"
  have hne : (cs == (("\n" : String) : Str)) = false := by
    rcases hcs with ⟨_, rfl, _⟩ | ⟨c, hc, rfl, _⟩
    · decide +kernel
    · rw [beq_eq_false_iff_ne]
      intro e
      have e2 : (⟨#[c]⟩ : Str) = ⟨#[10]⟩ := e
      have : c = 10 := by injection e2 with e3; simpa using e3
      exact hnl (this ▸ hc)
  refine ifF hne ?_
  refine wpAny_execs_nil (wpAny_execs_cons (wpAny_If ?_))
  iterate 8 walk_at "mt"
  refine wpAny_execs_nil ?_
  have X3 : LX h₃ x dx y dy rp rf W line i' st tk := ⟨mA, tt, I3, Fx0, hst, htk, S3, ⟨hxy, hxdy, hydx⟩, n, u, hln⟩
  exact H h₃ _ _ u2 cs i' ok3 F3 (by walk_at "lk") (by walk_at "lk") (by walk_at "lk") (by walk_at "lk") X3 (fun b o n1 n2 e => kk3 _ _ (kk2 _ _ n2 (kk1 _ _ e)) n1) hcs
end
theorem free752 (P : Params) : lexN.all (freeName (KK pw P) 752) = true := by kernel_rfl
theorem IN.getL {w : World} {A : Around} {h : Heap} {g : Array GenState} {d : Drawn} {k : Nat} {os : OsState} {E : Value → Shared → Prop} {x dx : Addr} {mA : Str → Option Value} {name : Str} {v : Value} {expr : Bool} {Q : Value → Shared → Prop} (I : IN h x dx 752 lexN mA) (ok : Ok w h) (hn : name ∈ lexN) (hv : mA name = some v) (hh : handedIn v = true) (H : ∀ k', Q v ⟨h, g, d, k', os⟩) :
    wpAny (MM w) A (getAttr (.ref x) name expr) Q E ⟨h, g, d, k, os⟩ := I.get ok (pc752 _) (List.all_eq_true.mp (free752 w.params) _ hn) hv hh H
theorem execs_one {M : Model} {A : Around} {E : Value → Shared → Prop} {s : Shared} {env : Env} {st : Stmt} {Q : Flow → Shared → Prop} (h : wpAny M A (exec st env) Q E s) : wpAny M A (execs [st] env) Q E s :=
  wpAny_execs_cons (wpAny_mono h (fun f s' q => by cases f <;> first | exact q | exact wpAny_execs_nil q) fun _ _ e => e)
section
variable {w : World} {A : Around} {E : Value → Shared → Prop} {env : Env} {Q : Value → Shared → Prop} {h : Heap} {g : Array GenState} {d : Drawn} {k : Nat} {os : OsState}
theorem rInt0 {i : Int} {kd : Nat} {p : Pos} (H : Q (.int i k) ⟨h, g, d, k + 1, os⟩) : wpAny (MM w) A (eval (.Constant (.int i) kd p) env) Q E ⟨h, g, d, k, os⟩ := wpAny_Constant_int H
theorem rStr0 {x : Str} {kd : Nat} {p : Pos} (H : Q (.str x k) ⟨h, g, d, k + 1, os⟩) : wpAny (MM w) A (eval (.Constant (.str x) kd p) env) Q E ⟨h, g, d, k, os⟩ := wpAny_Constant_str H
theorem IN.get0 {x dx C : Addr} {names : List Str} {mA : Str → Option Value} {name : Str} {v : Value} {expr : Bool} (I : IN h x dx C names mA) (ok : Ok w h) (hp : plainCls (KK pw w.params) C = true) (hn : freeName (KK pw w.params) C name = true) (hv : mA name = some v) (hh : handedIn v = true) (H : Q v ⟨h, g, d, k + 1, os⟩) :
    wpAny (MM w) A (getAttr (.ref x) name expr) Q E ⟨h, g, d, k, os⟩ := by
  obtain ⟨ox, od, I', _, _, hl⟩ := I.inst
  simp only [plainCls, Bool.and_eq_true, beq_iff_eq] at hp
  obtain ⟨⟨⟨⟨h1, h2⟩, h3⟩, h4⟩, h5⟩ := hp
  obtain ⟨cd, hc, hdict⟩ := any_some h1
  have hn' : findIn (KK pw w.params) (.ref C) name = some none := beq_iff_eq.mp hn
  refine get_value (s := ⟨h, g, d, k, os⟩) ok.K I' h3 ?_ hh H
  unfold findObj
  rw [hc, hn']
  simp only [Option.bind_some, W.ownOf, hdict, if_true, hl, hv]
theorem IN.getL0 {x dx : Addr} {mA : Str → Option Value} {name : Str} {v : Value} {expr : Bool} (I : IN h x dx 752 lexN mA) (ok : Ok w h) (hn : name ∈ lexN) (hv : mA name = some v) (hh : handedIn v = true) (H : Q v ⟨h, g, d, k + 1, os⟩) :
    wpAny (MM w) A (getAttr (.ref x) name expr) Q E ⟨h, g, d, k, os⟩ := I.get0 ok (pc752 _) (List.all_eq_true.mp (free752 w.params) _ hn) hv hh H
end
local macro_rules | `(tactic| walk_at "g eval") => `(tactic| first
  | (with_reducible refine ld (by assumption) (by walk_at "lk") ?_ (by kernel_rfl!) (by kernel_rfl!) (by decide +kernel))
  | (with_reducible refine Attribute_any_ ?_ (by with_unfolding_all rfl))
  | (with_reducible refine rStr ?_; intro _ _)
  | (with_reducible refine rInt ?_; intro _ _)
  | with_reducible refine wpAny_Constant_none ?_
  | with_reducible refine wpAny_Constant_bool ?_
  | (with_reducible refine ldG (by assumption) (by kernel_rfl!) (by kernel_rfl!) (by kernel_rfl!) (by with_unfolding_all rfl) ?_ (by decide +kernel))
  | (with_reducible refine ldB (by assumption) (by kernel_rfl!) (by kernel_rfl!) (by kernel_rfl!) (by kernel_rfl!) (by kernel_rfl!) (by first | exact Boot.«sorted» | exact Boot.«len» | exact Boot.«isinstance» | exact Boot.«list» | exact Boot.«int» | exact Boot.«type» | exact Boot.«str» | exact Boot.«bool» | exact Boot.«IndexError» | exact Boot.«StopIteration») (by decide +kernel) ?_ (by decide +kernel))
  | with_reducible refine wpAny_Call_NameR ?_
  | with_reducible refine wpAny_BinOp ?_
  | with_reducible refine wpAny_Compare1 ?_
  | with_reducible refine Subscript_ ?_
  | with_reducible refine rListD ?_
  | with_reducible refine wpAny_UnaryOp ?_)
local macro_rules | `(tactic| walk_at "g true") => `(tactic| first
  | with_reducible refine wpAny_isTrue_Compare1 ?_
  | with_reducible refine isTrue_and ?_
  | with_reducible refine isTrue_or ?_
  | with_reducible refine isTrue_not ?_
  | with_reducible refine isTrue_and_nil ?_
  | with_reducible refine isTrue_or_nil ?_
  | (with_reducible refine isTrue_plain ?_ (by with_unfolding_all rfl)))
local macro_rules | `(tactic| walk_at "g cmp") => `(tactic| first
  | with_reducible refine eq_str ?_
  | with_reducible refine PySem.P.in_str ?_
  | with_reducible refine isNone_s ?_
  | with_reducible refine PySem.EqNone.eq_str_none ?_
  | with_reducible refine PySem.EqNone.eq_none_none ?_
  | with_reducible refine is_none_none ?_
  | with_reducible refine isnotNone_s ?_
  | with_reducible refine isnotNone_r ?_
  | with_reducible refine isnot_none_none ?_
  | with_reducible refine isNone_r ?_
  | with_reducible refine isNone_i ?_
  | with_reducible refine isNone_b ?_
  | with_reducible refine isnotNone_i ?_
  | with_reducible refine isnotNone_b ?_
  | with_reducible refine ne_str ?_
  | with_reducible refine ge_int ?_
  | with_reducible refine gt_int ?_
  | with_reducible refine lt_int ?_
  | with_reducible refine le_int ?_
  | with_reducible refine eq_int ?_
  | with_reducible refine ne_int ?_
  | with_reducible refine PySem.P.notIn_str ?_
  | with_reducible refine isNotT ?_
  | with_reducible refine isT ?_)
local macro_rules | `(tactic| walk_at "gg") => `(tactic| first
  | ((with_reducible show wpAny _ _ (eval _ _) _ _ _); walk_at "g eval")
  | ((with_reducible show wpAny _ _ (compareOp _ _ _) _ _ _); walk_at "g cmp")
  | ((with_reducible show wpAny _ _ (PySem.truthy _) _ _ _); first
      | with_reducible refine wpAny_truthy_bool ?_
      | (with_reducible refine PySem.P.truthy_str (by decide) ?_))
  | ((with_reducible show wpAny _ _ (PySem.isTrue _ _ _) _ _ _); walk_at "g true")
  | ((with_reducible show wpAny _ _ (getAttr _ _ _) _ _ _); with_reducible refine IN.getL (by assumption) (by assumption) (by decide +kernel) (by walk_at "lk") rfl ?_; intro _)
  | ((with_reducible show wpAny _ _ (execs _ _) _ _ _); first | with_reducible refine execs_one ?_ | with_reducible refine wpAny_execs_cons ?_ | with_reducible refine wpAny_execs_nil ?_)
  | ((with_reducible show wpAny _ _ (exec _ _) _ _ _); first
      | with_reducible refine wpAny_If ?_
      | (with_reducible refine wpAny_Assign_Name ?_ (by kernel_rfl!))
      | (with_reducible refine plainObj_wpAny_Assign_Attribute ?_ (by kernel_rfl!))
      | with_reducible refine wpAny_Break ?_
      | with_reducible refine wpAny_Return_some ?_)
  | ((with_reducible show wpAny _ _ (spliced _) _ _ _); first
      | with_reducible refine wpAny_items_nil ?_
      | (with_reducible refine wpAny_items_cons ?_ (by with_unfolding_all rfl)))
  | ((with_reducible show wpAny _ _ (callWith _ (Value.builtin _) _ _ _) _ _ _); (with_reducible refine cwB (by with_unfolding_all rfl) (by with_unfolding_all rfl) ?_))
  | ((with_reducible show wpAny _ _ (callWith _ (Value.type _) _ _ _) _ _ _); (with_reducible refine PyProof.Rows.callWith_type1 ?_ (by with_unfolding_all rfl) (by with_unfolding_all rfl)))
  | (with_reducible refine ifF (by first | assumption | kernel_rfl!) ?_)
  | (with_reducible refine ifT (by first | assumption | kernel_rfl!) ?_))
theorem LexFix.set {mA : Str → Option Value} {y rp rf : Addr} {W name : Str} {v : Option Value} (F : LexFix mA y rp rf W) (hn : name = "token" ∨ name = "state") : LexFix (fun z => if z = name then v else mA z) y rp rf W := by
  obtain ⟨f1, f2, f3, ⟨t4, f4⟩, ⟨t5, f5⟩, ⟨t6, f6⟩, f7, ⟨t8, f8⟩, ⟨t9, f9⟩, ⟨t10, f10⟩, f11, ⟨t12, f12⟩, f13, f14, ⟨t15, f15⟩, f16⟩ := F
  have off : ∀ n : Str, n ≠ (("token" : String) : Str) → n ≠ (("state" : String) : Str) → (if n = name then v else mA n) = mA n := fun n a b => if_neg fun e => by rcases hn with q | q <;> rw [q] at e <;> first | exact a e | exact b e
  have mem : name ∈ lexN := by rcases hn with q | q <;> rw [q] <;> decide +kernel
  exact ⟨(off _ (by decide +kernel) (by decide +kernel)).trans f1, (off _ (by decide +kernel) (by decide +kernel)).trans f2, (off _ (by decide +kernel) (by decide +kernel)).trans f3, ⟨t4, (off _ (by decide +kernel) (by decide +kernel)).trans f4⟩, ⟨t5, (off _ (by decide +kernel) (by decide +kernel)).trans f5⟩, ⟨t6, (off _ (by decide +kernel) (by decide +kernel)).trans f6⟩,
    (off _ (by decide +kernel) (by decide +kernel)).trans f7, ⟨t8, (off _ (by decide +kernel) (by decide +kernel)).trans f8⟩, ⟨t9, (off _ (by decide +kernel) (by decide +kernel)).trans f9⟩, ⟨t10, (off _ (by decide +kernel) (by decide +kernel)).trans f10⟩, (off _ (by decide +kernel) (by decide +kernel)).trans f11, ⟨t12, (off _ (by decide +kernel) (by decide +kernel)).trans f12⟩,
    (off _ (by decide +kernel) (by decide +kernel)).trans f13, (off _ (by decide +kernel) (by decide +kernel)).trans f14, ⟨t15, (off _ (by decide +kernel) (by decide +kernel)).trans f15⟩, fun n hnn => (if_neg fun (e : n = name) => hnn (e ▸ mem)).trans (f16 n hnn)⟩

inductive St | S | A | Q | D | N
deriving DecidableEq
def St.sign : St → Str | .S => " " | .A => "a" | .Q => "'" | .D => "\"" | .N => ""
def StV (s : St) (v : Value) : Prop := match s with | .N => v = .none | s => ∃ t, v = .str s.sign t
abbrev inS (S c : Str) : Bool := !(Builtin.Str.occurrences S c 0 S.length 1).isEmpty
structure WOk (W : Str) : Prop where
  a : inS W "a" = true
  m : inS W "-" = false
  p : inS W "+" = false
  q : inS W "'" = false
section
variable {w : World} {A : Around} {E : Value → Shared → Prop} {h : Heap} {g : Array GenState} {d : Drawn} {k : Nat} {os : OsState} {env : Env} {pos : Pos} {x dx y dy rp rf L : Addr} {W line : Str} {m : Str → Option Value}
/-- a turn whose sign is read -/
structure TU (w : World) (A : Around) (h : Heap) (m : Str → Option Value) (x dx y dy rp rf L : Addr) (W line : Str) (i : Nat) (st : Value) (tk : Str) (te : Tok) (q : Bool) (cs : Str) : Prop where
  hd : A.depth + 9 < recursionLimit
  ok : Ok w h
  F : Fr ({} : Heap) L h m
  hL : 838 ≤ L
  hLx : L ≠ dx ∧ L ≠ x
  hLy : L ≠ dy ∧ L ≠ y
  X : LX h x dx y dy rp rf W line i st tk
  m1 : m "self" = some (.ref x)
  m2 : m "quoted" = some (.bool q)
  m3 : m "escapedstate" = some (.str " " te)
  m4 : ∃ u, m "nextchar" = some (.str cs u)
  htl : tk.length ≤ 9999
/-- what a turn leaves -/
def TurnTo (w : World) (h : Heap) (g : Array GenState) (d : Drawn) (os : OsState) (x dx y dy rp rf L : Addr) (W line : Str) (i : Nat) (te : Tok) (fl : Flow) (st' : St) (tk' : Str) (q' : Bool) (f : Flow) (s' : Shared) : Prop :=
  f = fl ∧ ∃ h' k' m' v', s' = ⟨h', g, d, k', os⟩ ∧ Ok w h' ∧ Fr ({} : Heap) L h' m' ∧ m' "self" = some (.ref x) ∧ m' "quoted" = some (.bool q') ∧ m' "escapedstate" = some (.str " " te) ∧ StV st' v' ∧ LX h' x dx y dy rp rf W line i v' tk' ∧ (∀ b o, b ≠ L → b ≠ dx → h.get? b = some o → h'.get? b = some o)
theorem inAC {s1 a c : Str} {u : Tok} {k1 k2 k3 : Nat} {p1 p2 p3 : Pos} {Q : Value → Shared → Prop} (H : ∀ h' k', (∀ b o, h.get? b = some o → h'.get? b = some o) → Q (.bool ([a, c].any (· == s1))) ⟨h', g, d, k', os⟩)
    (he : starEach [.Constant (.str a) k1 p1, .Constant (.str c) k2 p2] env = [(false, eval (.Constant (.str a) k1 p1) env), (false, eval (.Constant (.str c) k2 p2) env)]) :
    wpAny (MM w) A (eval (.Tuple [.Constant (.str a) k1 p1, .Constant (.str c) k2 p2] k3 p3) env) (fun b s₂ => wpAny (MM w) A (compareOp .In (.str s1 u) b) Q E s₂) E ⟨h, g, d, k, os⟩ := by
  refine wpAny_Tuple ?_
  rw [he]
  refine Calls.spliced_cons (rStr (kd := k1) (p := p1) fun t1 _ => Calls.spliced_cons (rStr (kd := k2) (p := p2) fun t2 _ => Calls.spliced_nil ⟨by show 2 ≤ _; decide, ?_⟩))
  exact in_tuple_strs ⟨_, Heap.get?_push_size _ rfl, rfl, 0, rfl⟩ (.cons _ _ (.cons _ _ .nil)) (H _ _ fun _ _ e => Heap.get?_push_of_some _ e)
theorem tr_aa {i : Nat} {tk : Str} {t te : Tok} {q : Bool} (T : TU w A h m x dx y dy rp rf L W line i (.str "a" t) tk te q "a") (hW : WOk W) :
    wpAny (MM w) A (execs (lpBody.drop 3) (rtEnv L)) (TurnTo w h g d os x dx y dy rp rf L W line i te .next .A (tk ++ "a") q) (fun _ _ => False) ⟨h, g, d, k, os⟩ := by
  obtain ⟨hd, ok, F, hL, hLx, hLy, X, m1, m2, m3, ⟨u, m4⟩, htl⟩ := T
  obtain ⟨mA, tt, I, Fx, hst, htk, S, hap, n, u', hln⟩ := X
  have Fx0 := Fx
  obtain ⟨f1, f2, f3, ⟨_, f4⟩, ⟨_, f5⟩, ⟨_, f6⟩, f7, ⟨_, f8⟩, ⟨_, f9⟩, ⟨_, f10⟩, f11, ⟨_, f12⟩, f13, f14, ⟨_, f15⟩, f16⟩ := Fx
  have p := pc752 w.params
  refine execs_one ?_
  repeat walk_at "gg"
  refine inAC (fun h1 k1 kk1 => ?_) (by with_unfolding_all rfl)
  have F1 : Fr ({} : Heap) L h1 _ := ⟨F.ns.keeps kk1, fun b o q => by simp [Heap.get?] at q, Nat.zero_le _⟩
  have ok1 := ok.keeps kk1
  have I1 := I.keep kk1
  have S1 := S.keep kk1
  clear F ok I S
  repeat walk_at "gg"
  refine ifT hW.a ?_
  refine ifT rfl ?_
  refine wpAny_execs_cons (wpAny_AugAssign_AttributeAny ?_)
  repeat walk_at "gg"
  refine rIaddS (by rw [sizeLine_eq]; show _ + 1 ≤ _; omega) (fun _ _ => ?_)
  refine I1.set ok1 p (by kernel_rfl!) (by decide +kernel) (by decide) (fun h2 k2 I2 kk2 => ?_)
  have ok2 := ok1.set I1.hi kk2
  have F2 : Fr ({} : Heap) L h2 _ := ⟨F1.ns.at' fun o e => kk2 _ o hLx.1 e, fun b o q => by simp [Heap.get?] at q, Nat.zero_le _⟩
  have S2 : SIO h2 y dy line i := S1.off hap.2.2 (Ne.symm hap.1) kk2
  clear F1 ok1 I1 S1
  repeat walk_at "gg"
  exact ⟨rfl, h2, _, _, (.str "a" t), rfl, ok2, F2, by walk_at "lk", by walk_at "lk", by walk_at "lk", ⟨t, rfl⟩, ⟨_, _, I2, (Fx0.set (.inl rfl)), by walk_at "lk", by walk_at "lk", S2, hap, n, u', by walk_at "lk"⟩, fun b o n1 n2 e => (kk2 _ _ n2 ((kk1 _ _ e)))⟩

theorem tr_ae {i : Nat} {tk : Str} {t te : Tok} {q : Bool} (T : TU w A h m x dx y dy rp rf L W line i (.str "a" t) tk te q "") :
    wpAny (MM w) A (execs (lpBody.drop 3) (rtEnv L)) (TurnTo w h g d os x dx y dy rp rf L W line i te .brk .N tk q) (fun _ _ => False) ⟨h, g, d, k, os⟩ := by
  obtain ⟨hd, ok, F, hL, hLx, hLy, X, m1, m2, m3, ⟨u, m4⟩, htl⟩ := T
  obtain ⟨mA, tt, I, Fx, hst, htk, S, hap, n, u', hln⟩ := X
  have Fx0 := Fx
  obtain ⟨f1, f2, f3, ⟨_, f4⟩, ⟨_, f5⟩, ⟨_, f6⟩, f7, ⟨_, f8⟩, ⟨_, f9⟩, ⟨_, f10⟩, f11, ⟨_, f12⟩, f13, f14, ⟨_, f15⟩, f16⟩ := Fx
  have p := pc752 w.params
  refine execs_one ?_
  repeat walk_at "gg"
  refine inAC (fun h1 k1 kk1 => ?_) (by with_unfolding_all rfl)
  have F1 : Fr ({} : Heap) L h1 _ := ⟨F.ns.keeps kk1, fun b o q => by simp [Heap.get?] at q, Nat.zero_le _⟩
  have ok1 := ok.keeps kk1
  have I1 := I.keep kk1
  have S1 := S.keep kk1
  clear F ok I S
  repeat walk_at "gg"
  refine I1.set ok1 p (by kernel_rfl!) (by decide +kernel) (by decide) (fun h2 k2 I2 kk2 => ?_)
  have ok2 := ok1.set I1.hi kk2
  have F2 : Fr ({} : Heap) L h2 _ := ⟨F1.ns.at' fun o e => kk2 _ o hLx.1 e, fun b o q => by simp [Heap.get?] at q, Nat.zero_le _⟩
  have S2 : SIO h2 y dy line i := S1.off hap.2.2 (Ne.symm hap.1) kk2
  clear F1 ok1 I1 S1
  repeat walk_at "gg"
  exact ⟨rfl, h2, _, _, .none, rfl, ok2, F2, by walk_at "lk", by walk_at "lk", by walk_at "lk", rfl, ⟨_, _, I2, (Fx0.set (.inr rfl)), by walk_at "lk", by walk_at "lk", S2, hap, n, u', by walk_at "lk"⟩, fun b o n1 n2 e => (kk2 _ _ n2 ((kk1 _ _ e)))⟩

theorem tr_ab {i : Nat} {tk : Str} {t te : Tok} {q : Bool} (T : TU w A h m x dx y dy rp rf L W line i (.str "a" t) tk te q " ") (ht : ((tk.length : Int) != 0) = true) :
    wpAny (MM w) A (execs (lpBody.drop 3) (rtEnv L)) (TurnTo w h g d os x dx y dy rp rf L W line i te .brk .S tk q) (fun _ _ => False) ⟨h, g, d, k, os⟩ := by
  obtain ⟨hd, ok, F, hL, hLx, hLy, X, m1, m2, m3, ⟨u, m4⟩, htl⟩ := T
  obtain ⟨mA, tt, I, Fx, hst, htk, S, hap, n, u', hln⟩ := X
  have Fx0 := Fx
  obtain ⟨f1, f2, f3, ⟨_, f4⟩, ⟨_, f5⟩, ⟨_, f6⟩, f7, ⟨_, f8⟩, ⟨_, f9⟩, ⟨_, f10⟩, f11, ⟨_, f12⟩, f13, f14, ⟨_, f15⟩, f16⟩ := Fx
  have p := pc752 w.params
  refine execs_one ?_
  repeat walk_at "gg"
  refine inAC (fun h1 k1 kk1 => ?_) (by with_unfolding_all rfl)
  have F1 : Fr ({} : Heap) L h1 _ := ⟨F.ns.keeps kk1, fun b o q => by simp [Heap.get?] at q, Nat.zero_le _⟩
  have ok1 := ok.keeps kk1
  have I1 := I.keep kk1
  have S1 := S.keep kk1
  clear F ok I S
  repeat walk_at "gg"
  refine I1.set ok1 p (by kernel_rfl!) (by decide +kernel) (by decide) (fun h2 k2 I2 kk2 => ?_)
  have ok2 := ok1.set I1.hi kk2
  have F2 : Fr ({} : Heap) L h2 _ := ⟨F1.ns.at' fun o e => kk2 _ o hLx.1 e, fun b o q => by simp [Heap.get?] at q, Nat.zero_le _⟩
  have S2 : SIO h2 y dy line i := S1.off hap.2.2 (Ne.symm hap.1) kk2
  clear F1 ok1 I1 S1
  repeat walk_at "gg"
  refine PySem.P.truthy_str (by omega) ?_
  repeat walk_at "gg"
  exact ⟨rfl, h2, _, _, _, rfl, ok2, F2, by walk_at "lk", by walk_at "lk", by walk_at "lk", ⟨_, rfl⟩, ⟨_, _, I2, (Fx0.set (.inr rfl)), by walk_at "lk", by walk_at "lk", S2, hap, n, u', by walk_at "lk"⟩, fun b o n1 n2 e => (kk2 _ _ n2 ((kk1 _ _ e)))⟩

theorem tr_aq {i : Nat} {tk : Str} {t te : Tok} {q : Bool} (T : TU w A h m x dx y dy rp rf L W line i (.str "a" t) tk te q "'") :
    wpAny (MM w) A (execs (lpBody.drop 3) (rtEnv L)) (TurnTo w h g d os x dx y dy rp rf L W line i te .next .Q tk q) (fun _ _ => False) ⟨h, g, d, k, os⟩ := by
  obtain ⟨hd, ok, F, hL, hLx, hLy, X, m1, m2, m3, ⟨u, m4⟩, htl⟩ := T
  obtain ⟨mA, tt, I, Fx, hst, htk, S, hap, n, u', hln⟩ := X
  have Fx0 := Fx
  obtain ⟨f1, f2, f3, ⟨_, f4⟩, ⟨_, f5⟩, ⟨_, f6⟩, f7, ⟨_, f8⟩, ⟨_, f9⟩, ⟨_, f10⟩, f11, ⟨_, f12⟩, f13, f14, ⟨_, f15⟩, f16⟩ := Fx
  have p := pc752 w.params
  refine execs_one ?_
  repeat walk_at "gg"
  refine inAC (fun h1 k1 kk1 => ?_) (by with_unfolding_all rfl)
  have F1 : Fr ({} : Heap) L h1 _ := ⟨F.ns.keeps kk1, fun b o q => by simp [Heap.get?] at q, Nat.zero_le _⟩
  have ok1 := ok.keeps kk1
  have I1 := I.keep kk1
  have S1 := S.keep kk1
  clear F ok I S
  repeat walk_at "gg"
  refine I1.set ok1 p (by kernel_rfl!) (by decide +kernel) (by decide) (fun h2 k2 I2 kk2 => ?_)
  have ok2 := ok1.set I1.hi kk2
  have F2 : Fr ({} : Heap) L h2 _ := ⟨F1.ns.at' fun o e => kk2 _ o hLx.1 e, fun b o q => by simp [Heap.get?] at q, Nat.zero_le _⟩
  have S2 : SIO h2 y dy line i := S1.off hap.2.2 (Ne.symm hap.1) kk2
  clear F1 ok1 I1 S1
  repeat walk_at "gg"
  exact ⟨rfl, h2, _, _, _, rfl, ok2, F2, by walk_at "lk", by walk_at "lk", by walk_at "lk", ⟨_, rfl⟩, ⟨_, _, I2, (Fx0.set (.inr rfl)), by walk_at "lk", by walk_at "lk", S2, hap, n, u', by walk_at "lk"⟩, fun b o n1 n2 e => (kk2 _ _ n2 ((kk1 _ _ e)))⟩

theorem tr_ad {i : Nat} {tk : Str} {t te : Tok} {q : Bool} (T : TU w A h m x dx y dy rp rf L W line i (.str "a" t) tk te q "\"") :
    wpAny (MM w) A (execs (lpBody.drop 3) (rtEnv L)) (TurnTo w h g d os x dx y dy rp rf L W line i te .next .D tk q) (fun _ _ => False) ⟨h, g, d, k, os⟩ := by
  obtain ⟨hd, ok, F, hL, hLx, hLy, X, m1, m2, m3, ⟨u, m4⟩, htl⟩ := T
  obtain ⟨mA, tt, I, Fx, hst, htk, S, hap, n, u', hln⟩ := X
  have Fx0 := Fx
  obtain ⟨f1, f2, f3, ⟨_, f4⟩, ⟨_, f5⟩, ⟨_, f6⟩, f7, ⟨_, f8⟩, ⟨_, f9⟩, ⟨_, f10⟩, f11, ⟨_, f12⟩, f13, f14, ⟨_, f15⟩, f16⟩ := Fx
  have p := pc752 w.params
  refine execs_one ?_
  repeat walk_at "gg"
  refine inAC (fun h1 k1 kk1 => ?_) (by with_unfolding_all rfl)
  have F1 : Fr ({} : Heap) L h1 _ := ⟨F.ns.keeps kk1, fun b o q => by simp [Heap.get?] at q, Nat.zero_le _⟩
  have ok1 := ok.keeps kk1
  have I1 := I.keep kk1
  have S1 := S.keep kk1
  clear F ok I S
  repeat walk_at "gg"
  refine I1.set ok1 p (by kernel_rfl!) (by decide +kernel) (by decide) (fun h2 k2 I2 kk2 => ?_)
  have ok2 := ok1.set I1.hi kk2
  have F2 : Fr ({} : Heap) L h2 _ := ⟨F1.ns.at' fun o e => kk2 _ o hLx.1 e, fun b o q => by simp [Heap.get?] at q, Nat.zero_le _⟩
  have S2 : SIO h2 y dy line i := S1.off hap.2.2 (Ne.symm hap.1) kk2
  clear F1 ok1 I1 S1
  repeat walk_at "gg"
  exact ⟨rfl, h2, _, _, _, rfl, ok2, F2, by walk_at "lk", by walk_at "lk", by walk_at "lk", ⟨_, rfl⟩, ⟨_, _, I2, (Fx0.set (.inr rfl)), by walk_at "lk", by walk_at "lk", S2, hap, n, u', by walk_at "lk"⟩, fun b o n1 n2 e => (kk2 _ _ n2 ((kk1 _ _ e)))⟩

theorem tr_se {i : Nat} {tk : Str} {t te : Tok} {q : Bool} (T : TU w A h m x dx y dy rp rf L W line i (.str " " t) tk te q "") :
    wpAny (MM w) A (execs (lpBody.drop 3) (rtEnv L)) (TurnTo w h g d os x dx y dy rp rf L W line i te .brk .N tk q) (fun _ _ => False) ⟨h, g, d, k, os⟩ := by
  obtain ⟨hd, ok, F, hL, hLx, hLy, X, m1, m2, m3, ⟨u, m4⟩, htl⟩ := T
  obtain ⟨mA, tt, I, Fx, hst, htk, S, hap, n, u', hln⟩ := X
  have Fx0 := Fx
  obtain ⟨f1, f2, f3, ⟨_, f4⟩, ⟨_, f5⟩, ⟨_, f6⟩, f7, ⟨_, f8⟩, ⟨_, f9⟩, ⟨_, f10⟩, f11, ⟨_, f12⟩, f13, f14, ⟨_, f15⟩, f16⟩ := Fx
  have p := pc752 w.params
  refine execs_one ?_
  repeat walk_at "gg"
  refine I.set ok p (by kernel_rfl!) (by decide +kernel) (by decide) (fun h1 k1 I1 kk1 => ?_)
  have ok1 := ok.set I.hi kk1
  have F1 : Fr ({} : Heap) L h1 _ := ⟨F.ns.at' fun o e => kk1 _ o hLx.1 e, fun b o q => by simp [Heap.get?] at q, Nat.zero_le _⟩
  have S1 : SIO h1 y dy line i := S.off hap.2.2 (Ne.symm hap.1) kk1
  clear F ok I S
  repeat walk_at "gg"
  exact ⟨rfl, h1, _, _, .none, rfl, ok1, F1, by walk_at "lk", by walk_at "lk", by walk_at "lk", rfl, ⟨_, _, I1, (Fx0.set (.inr rfl)), by walk_at "lk", by walk_at "lk", S1, hap, n, u', by walk_at "lk"⟩, fun b o n1 n2 e => (kk1 _ _ n2 (e))⟩

theorem tr_sq {i : Nat} {tk : Str} {t te : Tok} {q : Bool} (T : TU w A h m x dx y dy rp rf L W line i (.str " " t) tk te q "'") (hW : WOk W) :
    wpAny (MM w) A (execs (lpBody.drop 3) (rtEnv L)) (TurnTo w h g d os x dx y dy rp rf L W line i te .next .Q tk q) (fun _ _ => False) ⟨h, g, d, k, os⟩ := by
  obtain ⟨hd, ok, F, hL, hLx, hLy, X, m1, m2, m3, ⟨u, m4⟩, htl⟩ := T
  obtain ⟨mA, tt, I, Fx, hst, htk, S, hap, n, u', hln⟩ := X
  have Fx0 := Fx
  obtain ⟨f1, f2, f3, ⟨_, f4⟩, ⟨_, f5⟩, ⟨_, f6⟩, f7, ⟨_, f8⟩, ⟨_, f9⟩, ⟨_, f10⟩, f11, ⟨_, f12⟩, f13, f14, ⟨_, f15⟩, f16⟩ := Fx
  have p := pc752 w.params
  refine execs_one ?_
  repeat walk_at "gg"
  refine ifF hW.q ?_
  repeat walk_at "gg"
  refine punct_get (by omega) ok I f15 (f16 _ (by decide +kernel)) (fun h1 k1 kk1 => ?_)
  have F1 : Fr ({} : Heap) L h1 _ := ⟨F.ns.keeps kk1, fun b o q => by simp [Heap.get?] at q, Nat.zero_le _⟩
  have ok1 := ok.keeps kk1
  have I1 := I.keep kk1
  have S1 := S.keep kk1
  clear F ok I S
  repeat walk_at "gg"
  refine I1.set ok1 p (by kernel_rfl!) (by decide +kernel) (by decide) (fun h2 k2 I2 kk2 => ?_)
  have ok2 := ok1.set I1.hi kk2
  have F2 : Fr ({} : Heap) L h2 _ := ⟨F1.ns.at' fun o e => kk2 _ o hLx.1 e, fun b o q => by simp [Heap.get?] at q, Nat.zero_le _⟩
  have S2 : SIO h2 y dy line i := S1.off hap.2.2 (Ne.symm hap.1) kk2
  clear F1 ok1 I1 S1
  repeat walk_at "gg"
  exact ⟨rfl, h2, _, _, _, rfl, ok2, F2, by walk_at "lk", by walk_at "lk", by walk_at "lk", ⟨_, rfl⟩, ⟨_, _, I2, (Fx0.set (.inr rfl)), by walk_at "lk", by walk_at "lk", S2, hap, n, u', by walk_at "lk"⟩, fun b o n1 n2 e => (kk2 _ _ n2 ((kk1 _ _ e)))⟩

theorem tr_ss {i : Nat} {tk : Str} {t te : Tok} {q : Bool} {cs : Str} (T : TU w A h m x dx y dy rp rf L W line i (.str " " t) tk te q cs) (hc1 : ((cs.length : Int) != 0) = true) (hcl : cs.length ≤ 9) (hc2 : inS " \t\r\n" cs = false) (hc3 : inS "" cs = false) (hc4 : inS "\\" cs = false) (hW1 : inS W cs = false) (hc5 : inS "'\"" cs = false) :
    wpAny (MM w) A (execs (lpBody.drop 3) (rtEnv L)) (TurnTo w h g d os x dx y dy rp rf L W line i te .next .A cs q) (fun _ _ => False) ⟨h, g, d, k, os⟩ := by
  obtain ⟨hd, ok, F, hL, hLx, hLy, X, m1, m2, m3, ⟨u, m4⟩, htl⟩ := T
  obtain ⟨mA, tt, I, Fx, hst, htk, S, hap, n, u', hln⟩ := X
  have Fx0 := Fx
  obtain ⟨f1, f2, f3, ⟨_, f4⟩, ⟨_, f5⟩, ⟨_, f6⟩, f7, ⟨_, f8⟩, ⟨_, f9⟩, ⟨_, f10⟩, f11, ⟨_, f12⟩, f13, f14, ⟨_, f15⟩, f16⟩ := Fx
  have p := pc752 w.params
  refine execs_one ?_
  repeat walk_at "gg"
  have hc1n : (!((cs.length : Int) != 0)) = false := by rw [hc1]; rfl
  refine PySem.P.truthy_str (by omega) ?_
  repeat walk_at "gg"
  refine punct_get (by omega) ok I f15 (f16 _ (by decide +kernel)) (fun h1 k1 kk1 => ?_)
  have F1 : Fr ({} : Heap) L h1 _ := ⟨F.ns.keeps kk1, fun b o q => by simp [Heap.get?] at q, Nat.zero_le _⟩
  have ok1 := ok.keeps kk1
  have I1 := I.keep kk1
  have S1 := S.keep kk1
  clear F ok I S
  repeat walk_at "gg"
  refine I1.set ok1 p (by kernel_rfl!) (by decide +kernel) (by decide) (fun h2 k2 I2 kk2 => ?_)
  have ok2 := ok1.set I1.hi kk2
  have F2 : Fr ({} : Heap) L h2 _ := ⟨F1.ns.at' fun o e => kk2 _ o hLx.1 e, fun b o q => by simp [Heap.get?] at q, Nat.zero_le _⟩
  have S2 : SIO h2 y dy line i := S1.off hap.2.2 (Ne.symm hap.1) kk2
  clear F1 ok1 I1 S1
  repeat walk_at "gg"
  refine I2.set ok2 p (by kernel_rfl!) (by decide +kernel) (by decide) (fun h3 k3 I3 kk3 => ?_)
  have ok3 := ok2.set I2.hi kk3
  have F3 : Fr ({} : Heap) L h3 _ := ⟨F2.ns.at' fun o e => kk3 _ o hLx.1 e, fun b o q => by simp [Heap.get?] at q, Nat.zero_le _⟩
  have S3 : SIO h3 y dy line i := S2.off hap.2.2 (Ne.symm hap.1) kk3
  clear F2 ok2 I2 S2
  repeat walk_at "gg"
  exact ⟨rfl, h3, _, _, _, rfl, ok3, F3, by walk_at "lk", by walk_at "lk", by walk_at "lk", ⟨_, rfl⟩, ⟨_, _, I3, ((Fx0.set (.inl rfl)).set (.inr rfl)), by walk_at "lk", by walk_at "lk", S3, hap, n, u', by walk_at "lk"⟩, fun b o n1 n2 e => (kk3 _ _ n2 ((kk2 _ _ n2 ((kk1 _ _ e)))))⟩

theorem tr_qo {i : Nat} {tk : Str} {t te : Tok} {q : Bool} {cs : Str} {st : St} (T : TU w A h m x dx y dy rp rf L W line i (.str st.sign t) tk te q cs) (hs1 : (st.sign == ((" " : String) : Str)) = false) (hs2 : inS "'\"" st.sign = true) (hc1 : ((cs.length : Int) != 0) = true) (hcl : cs.length ≤ 9) (hc2 : (cs == st.sign) = false) (hc3 : inS "\\" cs = false) (hN : st = .Q ∨ st = .D) :
    wpAny (MM w) A (execs (lpBody.drop 3) (rtEnv L)) (TurnTo w h g d os x dx y dy rp rf L W line i te .next st (tk ++ cs) true) (fun _ _ => False) ⟨h, g, d, k, os⟩ := by
  obtain ⟨hd, ok, F, hL, hLx, hLy, X, m1, m2, m3, ⟨u, m4⟩, htl⟩ := T
  obtain ⟨mA, tt, I, Fx, hst, htk, S, hap, n, u', hln⟩ := X
  have Fx0 := Fx
  obtain ⟨f1, f2, f3, ⟨_, f4⟩, ⟨_, f5⟩, ⟨_, f6⟩, f7, ⟨_, f8⟩, ⟨_, f9⟩, ⟨_, f10⟩, f11, ⟨_, f12⟩, f13, f14, ⟨_, f15⟩, f16⟩ := Fx
  have p := pc752 w.params
  refine execs_one ?_
  repeat walk_at "gg"
  refine rSt F (fun h1 k1 F1 kk1' => ?_) (by kernel_rfl!) (by kernel_rfl!)
  have kk1 : ∀ b o, b ≠ L → h.get? b = some o → h1.get? b = some o := fun b o n e => kk1' b o e n
  have ok1 : Ok w h1 := ok.set hL kk1
  have I1 : IN h1 x dx 752 lexN mA := I.off (Ne.symm hLx.2) (Ne.symm hLx.1) kk1
  have S1 : SIO h1 y dy line i := S.off (Ne.symm hLy.2) (Ne.symm hLy.1) kk1
  clear F ok I S
  repeat walk_at "gg"
  have hc1n : (!((cs.length : Int) != 0)) = false := by rw [hc1]; rfl
  refine PySem.P.truthy_str (by omega) ?_
  repeat walk_at "gg"
  refine wpAny_AugAssign_AttributeAny ?_
  repeat walk_at "gg"
  refine rIaddS (x := tk) (y := cs) (by rw [sizeLine_eq]; omega) (fun _ _ => ?_)
  refine I1.set ok1 p (by kernel_rfl!) (by decide +kernel) (by decide) (fun h2 k2 I2 kk2 => ?_)
  have ok2 := ok1.set I1.hi kk2
  have F2 : Fr ({} : Heap) L h2 _ := ⟨F1.ns.at' fun o e => kk2 _ o hLx.1 e, fun b o q => by simp [Heap.get?] at q, Nat.zero_le _⟩
  have S2 : SIO h2 y dy line i := S1.off hap.2.2 (Ne.symm hap.1) kk2
  clear F1 ok1 I1 S1
  repeat walk_at "gg"
  exact ⟨rfl, h2, _, _, (.str st.sign t), rfl, ok2, F2, by walk_at "lk", by walk_at "lk", by walk_at "lk", by rcases hN with rfl | rfl <;> exact ⟨t, rfl⟩, ⟨_, _, I2, (Fx0.set (.inl rfl)), by walk_at "lk", by walk_at "lk", S2, hap, n, u', by walk_at "lk"⟩, fun b o n1 n2 e => (kk2 _ _ n2 ((kk1 _ _ n1 (e))))⟩

theorem tr_qc {i : Nat} {tk : Str} {t te : Tok} {q : Bool} {st : St} (T : TU w A h m x dx y dy rp rf L W line i (.str st.sign t) tk te q st.sign) (hs1 : (st.sign == ((" " : String) : Str)) = false) (hs2 : inS "'\"" st.sign = true) (hc1 : ((st.sign.length : Int) != 0) = true) (hcl : st.sign.length ≤ 9) (hc2 : (st.sign == st.sign) = true) :
    wpAny (MM w) A (execs (lpBody.drop 3) (rtEnv L)) (TurnTo w h g d os x dx y dy rp rf L W line i te .next .A tk true) (fun _ _ => False) ⟨h, g, d, k, os⟩ := by
  obtain ⟨hd, ok, F, hL, hLx, hLy, X, m1, m2, m3, ⟨u, m4⟩, htl⟩ := T
  obtain ⟨mA, tt, I, Fx, hst, htk, S, hap, n, u', hln⟩ := X
  have Fx0 := Fx
  obtain ⟨f1, f2, f3, ⟨_, f4⟩, ⟨_, f5⟩, ⟨_, f6⟩, f7, ⟨_, f8⟩, ⟨_, f9⟩, ⟨_, f10⟩, f11, ⟨_, f12⟩, f13, f14, ⟨_, f15⟩, f16⟩ := Fx
  have p := pc752 w.params
  refine execs_one ?_
  repeat walk_at "gg"
  refine rSt F (fun h1 k1 F1 kk1' => ?_) (by kernel_rfl!) (by kernel_rfl!)
  have kk1 : ∀ b o, b ≠ L → h.get? b = some o → h1.get? b = some o := fun b o n e => kk1' b o e n
  have ok1 : Ok w h1 := ok.set hL kk1
  have I1 : IN h1 x dx 752 lexN mA := I.off (Ne.symm hLx.2) (Ne.symm hLx.1) kk1
  have S1 : SIO h1 y dy line i := S.off (Ne.symm hLy.2) (Ne.symm hLy.1) kk1
  clear F ok I S
  repeat walk_at "gg"
  have hc1n : (!((st.sign.length : Int) != 0)) = false := by rw [hc1]; rfl
  refine PySem.P.truthy_str (by omega) ?_
  repeat walk_at "gg"
  refine I1.set ok1 p (by kernel_rfl!) (by decide +kernel) (by decide) (fun h2 k2 I2 kk2 => ?_)
  have ok2 := ok1.set I1.hi kk2
  have F2 : Fr ({} : Heap) L h2 _ := ⟨F1.ns.at' fun o e => kk2 _ o hLx.1 e, fun b o q => by simp [Heap.get?] at q, Nat.zero_le _⟩
  have S2 : SIO h2 y dy line i := S1.off hap.2.2 (Ne.symm hap.1) kk2
  clear F1 ok1 I1 S1
  repeat walk_at "gg"
  exact ⟨rfl, h2, _, _, _, rfl, ok2, F2, by walk_at "lk", by walk_at "lk", by walk_at "lk", ⟨_, rfl⟩, ⟨_, _, I2, (Fx0.set (.inr rfl)), by walk_at "lk", by walk_at "lk", S2, hap, n, u', by walk_at "lk"⟩, fun b o n1 n2 e => (kk2 _ _ n2 ((kk1 _ _ n1 (e))))⟩

theorem tr_ne {i : Nat} {tk : Str} {t te : Tok} {q : Bool} (T : TU w A h m x dx y dy rp rf L W line i .none tk te q "") :
    wpAny (MM w) A (execs (lpBody.drop 3) (rtEnv L)) (TurnTo w h g d os x dx y dy rp rf L W line i te .brk .N "" q) (fun _ _ => False) ⟨h, g, d, k, os⟩ := by
  obtain ⟨hd, ok, F, hL, hLx, hLy, X, m1, m2, m3, ⟨u, m4⟩, htl⟩ := T
  obtain ⟨mA, tt, I, Fx, hst, htk, S, hap, n, u', hln⟩ := X
  have Fx0 := Fx
  obtain ⟨f1, f2, f3, ⟨_, f4⟩, ⟨_, f5⟩, ⟨_, f6⟩, f7, ⟨_, f8⟩, ⟨_, f9⟩, ⟨_, f10⟩, f11, ⟨_, f12⟩, f13, f14, ⟨_, f15⟩, f16⟩ := Fx
  have p := pc752 w.params
  refine execs_one ?_
  repeat walk_at "gg"
  refine I.set ok p (by kernel_rfl!) (by decide +kernel) (by decide) (fun h1 k1 I1 kk1 => ?_)
  have ok1 := ok.set I.hi kk1
  have F1 : Fr ({} : Heap) L h1 _ := ⟨F.ns.at' fun o e => kk1 _ o hLx.1 e, fun b o q => by simp [Heap.get?] at q, Nat.zero_le _⟩
  have S1 : SIO h1 y dy line i := S.off hap.2.2 (Ne.symm hap.1) kk1
  clear F ok I S
  repeat walk_at "gg"
  exact ⟨rfl, h1, _, _, .none, rfl, ok1, F1, by walk_at "lk", by walk_at "lk", by walk_at "lk", rfl, ⟨_, _, I1, (Fx0.set (.inl rfl)), by walk_at "lk", by walk_at "lk", S1, hap, n, u', by walk_at "lk"⟩, fun b o n1 n2 e => (kk1 _ _ n2 (e))⟩

end
/-- the reader's run over the signs, up to the end of a token -/
def mrun : St → Str → Bool → List Nat → Option (St × Str × Bool × List Nat)
  | .S, tk, q, [] => some (.N, tk, q, [])
  | .A, tk, q, [] => some (.N, tk, q, [])
  | .N, _, q, [] => some (.N, "", q, [])
  | .Q, _, _, [] => none
  | .D, _, _, [] => none
  | .S, tk, q, c :: l => if c = 45 ∨ c = 43 then mrun .A ⟨#[c]⟩ q l else if c = 39 then mrun .Q tk q l else none
  | .A, tk, q, c :: l => if c = 32 then (if ((tk.length : Int) != 0) = true then some (.S, tk, q, l) else none) else if c = 97 then mrun .A (tk ++ "a") q l else if c = 39 then mrun .Q tk q l else if c = 34 then mrun .D tk q l else none
  | .Q, tk, _, c :: l => if c = 39 then mrun .A tk true l else if c = 45 ∨ c = 43 ∨ c = 97 ∨ c = 32 then mrun .Q (tk ++ ⟨#[c]⟩) true l else none
  | .D, tk, _, c :: l => if c = 34 then mrun .A tk true l else if c = 39 then mrun .D (tk ++ ⟨#[c]⟩) true l else none
  | .N, _, _, _ :: _ => none
theorem mrun_nl (st : St) (tk : Str) (q : Bool) (l : List Nat) : mrun st tk q (10 :: l) = none := by
  cases st <;> simp [mrun]
theorem drop_cons {line : Str} {i c : Nat} (h : line.cps[i]? = some c) : line.cps.toList.drop i = c :: line.cps.toList.drop (i + 1) := by
  have h' : line.cps.toList[i]? = some c := by rw [Array.getElem?_toList]; exact h
  obtain ⟨hl, e⟩ := List.getElem?_eq_some_iff.mp h'
  rw [List.drop_eq_getElem_cons hl, e]
theorem drop_end {line : Str} {i : Nat} (h : i = line.length) : line.cps.toList.drop i = [] := by
  rw [h]; exact List.drop_eq_nil_of_le (by show _ ≤ line.cps.size; simp)
def rtTail : List Stmt := match oBody (oSub (oSt pw 25) 6) with | _ :: _ :: _ :: r => r | _ => []
abbrev MRes := St × Str × Bool × List Nat
section
variable {w : World} {A : Around} {E : Value → Shared → Prop} {h : Heap} {g : Array GenState} {d : Drawn} {k : Nat} {os : OsState} {env : Env} {pos : Pos} {x dx y dy rp rf L : Addr} {W line : Str} {m : Str → Option Value}
/-- the state between the turns of read_token -/
structure RT (w : World) (h : Heap) (h' : Heap) (m' : Str → Option Value) (x dx y dy rp rf L : Addr) (W line : Str) (i : Nat) (st : St) (tk : Str) (q : Bool) (te : Tok) : Prop where
  ok : Ok w h'
  F : Fr ({} : Heap) L h' m'
  m1 : m' "self" = some (.ref x)
  m2 : m' "quoted" = some (.bool q)
  m3 : m' "escapedstate" = some (.str " " te)
  X : ∃ v, StV st v ∧ LX h' x dx y dy rp rf W line i v tk
  i_le : i ≤ line.length
  tk_le : tk.length ≤ i
  kp : ∀ b o, b ≠ L → b ≠ dx → b ≠ dy → h.get? b = some o → h'.get? b = some o
theorem RT.of {h' : Heap} {te : Tok} {i : Nat} {st : St} {tk : Str} {q : Bool} {fl : Flow} {f : Flow} {s' : Shared} (kp : ∀ b o, b ≠ L → b ≠ dx → b ≠ dy → h.get? b = some o → h'.get? b = some o) (hi : i ≤ line.length) (ht : tk.length ≤ i)
    (T : TurnTo w h' g d os x dx y dy rp rf L W line i te fl st tk q f s') : f = fl ∧ ∃ h₂ k₂ m₂, s' = ⟨h₂, g, d, k₂, os⟩ ∧ RT w h h₂ m₂ x dx y dy rp rf L W line i st tk q te := by
  obtain ⟨e, h₂, k₂, m₂, v₂, rfl, ok, F, m1, m2, m3, hv, X, kk⟩ := T
  exact ⟨e, h₂, k₂, m₂, rfl, ok, F, m1, m2, m3, ⟨v₂, hv, X⟩, hi, ht, fun b o n1 n2 n3 e => kk b o n1 n2 (kp b o n1 n2 n3 e)⟩
theorem st_str {st : St} {v : Value} (hv : StV st v) (hn : st ≠ .N) : ∃ t, v = .str st.sign t := by
  cases st <;> first | exact absurd rfl hn | exact hv
theorem rt_turn {h' : Heap} {m' : Str → Option Value} {te : Tok} {i : Nat} {st : St} {tk : Str} {q : Bool} {res : MRes} (hd : A.depth + 9 < recursionLimit) (hL : 838 ≤ L) (hLx : L ≠ dx ∧ L ≠ x) (hLy : L ≠ dy ∧ L ≠ y) (hx : line.length ≤ 9999) (hW : WOk W)
    (R : RT w h h' m' x dx y dy rp rf L W line i st tk q te) (hm : mrun st tk q (line.cps.toList.drop i) = some res) :
    wpAny (MM w) A (execs lpBody (rtEnv L)) (fun f s₃ => (f = .next ∧ ∃ h₂ k₂ m₂ st₂ tk₂ q₂, s₃ = ⟨h₂, g, d, k₂, os⟩ ∧ RT w h h₂ m₂ x dx y dy rp rf L W line (i + 1) st₂ tk₂ q₂ te ∧ mrun st₂ tk₂ q₂ (line.cps.toList.drop (i + 1)) = some res) ∨
      (f = .brk ∧ ∃ h₂ k₂ m₂ i₂, s₃ = ⟨h₂, g, d, k₂, os⟩ ∧ RT w h h₂ m₂ x dx y dy rp rf L W line i₂ res.1 res.2.1 res.2.2.1 te ∧ line.cps.toList.drop i₂ = res.2.2.2)) (fun _ _ => False) ⟨h', g, d, k, os⟩ := by
  obtain ⟨ok, F, m1, m2, m3, ⟨v, hv, X⟩, hi, htk, kp⟩ := R
  refine turn_pre hd ok F hL hLx hLy X hx hi m1 m2 m3 (fun e => by rw [drop_cons e, mrun_nl] at hm; cases hm) (fun h₁ k₁ m₁ u cs i₁ ok₁ F₁ n1 n2 n3 n4 X₁ kk hcs => ?_)
  have kp1 : ∀ b o, b ≠ L → b ≠ dx → b ≠ dy → h.get? b = some o → h₁.get? b = some o := fun b o a1 a2 a3 e => kk b o a1 a3 (kp b o a1 a2 a3 e)
  have htl : tk.length ≤ 9999 := Nat.le_trans htk (Nat.le_trans hi hx)
  rcases hcs with ⟨hie, rfl, rfl⟩ | ⟨c, hc, rfl, rfl⟩
  · rw [drop_end hie] at hm
    have T : TU w A h₁ m₁ x dx y dy rp rf L W line i₁ v tk te q "" := ⟨hd, ok₁, F₁, hL, hLx, hLy, X₁, n1, n2, n3, ⟨u, n4⟩, htl⟩
    have fin : ∀ (st' : St) (tk' : Str) (q' : Bool), tk'.length ≤ i₁ → some (st', tk', q', ([] : List Nat)) = some res → ∀ f s₃, TurnTo w h₁ g d os x dx y dy rp rf L W line i₁ te .brk st' tk' q' f s₃ →
        (f = .brk ∧ ∃ h₂ k₂ m₂ i₂, s₃ = ⟨h₂, g, d, k₂, os⟩ ∧ RT w h h₂ m₂ x dx y dy rp rf L W line i₂ res.1 res.2.1 res.2.2.1 te ∧ line.cps.toList.drop i₂ = res.2.2.2) := by
      intro st' tk' q' hl e f s₃ T'
      cases e
      obtain ⟨e1, h₂, k₂, m₂, e2, R'⟩ := RT.of kp1 hi hl T'
      exact ⟨e1, h₂, k₂, m₂, i₁, e2, R', drop_end hie⟩
    cases st with
    | S => obtain ⟨t, rfl⟩ := st_str hv (by decide); exact wpAny_mono (tr_se T) (fun f s₃ T' => .inr (fin _ _ _ htk (by simpa [mrun] using hm) f s₃ T')) fun _ _ e => e
    | A => obtain ⟨t, rfl⟩ := st_str hv (by decide); exact wpAny_mono (tr_ae T) (fun f s₃ T' => .inr (fin _ _ _ htk (by simpa [mrun] using hm) f s₃ T')) fun _ _ e => e
    | N => obtain rfl : v = .none := hv; exact wpAny_mono (tr_ne T (t := 0)) (fun f s₃ T' => .inr (fin _ _ _ (Nat.zero_le _) (by simpa [mrun] using hm) f s₃ T')) fun _ _ e => e
    | Q => simp [mrun] at hm
    | D => simp [mrun] at hm
  · rw [drop_cons hc] at hm
    have hi1 : i + 1 ≤ line.length := (Array.getElem?_eq_some_iff.mp hc).1
    have T : TU w A h₁ m₁ x dx y dy rp rf L W line (i + 1) v tk te q ⟨#[c]⟩ := ⟨hd, ok₁, F₁, hL, hLx, hLy, X₁, n1, n2, n3, ⟨u, n4⟩, htl⟩
    have nx : ∀ (st' : St) (tk' : Str) (q' : Bool), tk'.length ≤ i + 1 → mrun st' tk' q' (line.cps.toList.drop (i + 1)) = some res → ∀ f s₃, TurnTo w h₁ g d os x dx y dy rp rf L W line (i + 1) te .next st' tk' q' f s₃ →
        (f = .next ∧ ∃ h₂ k₂ m₂ st₂ tk₂ q₂, s₃ = ⟨h₂, g, d, k₂, os⟩ ∧ RT w h h₂ m₂ x dx y dy rp rf L W line (i + 1) st₂ tk₂ q₂ te ∧ mrun st₂ tk₂ q₂ (line.cps.toList.drop (i + 1)) = some res) := by
      intro st' tk' q' hl e f s₃ T'
      obtain ⟨e1, h₂, k₂, m₂, e2, R'⟩ := RT.of kp1 hi1 hl T'
      exact ⟨e1, h₂, k₂, m₂, st', tk', q', e2, R', e⟩
    have l1 : (tk ++ ⟨#[c]⟩ : Str).length ≤ i + 1 := by rw [Str.length_append]; show _ + 1 ≤ _; omega
    have l2 : (tk ++ "a" : Str).length ≤ i + 1 := by rw [Str.length_append]; show _ + 1 ≤ _; omega
    cases st with
    | N => simp [mrun] at hm
    | S =>
      obtain ⟨t, rfl⟩ := st_str hv (by decide)
      rw [mrun] at hm
      split at hm
      · rename_i hcc
        refine wpAny_mono (tr_ss T ?_ ?_ ?_ ?_ ?_ ?_ ?_) (fun f s₃ T' => .inl (nx _ _ _ (by show 1 ≤ _; omega) hm f s₃ T')) fun _ _ e => e
        all_goals rcases hcc with rfl | rfl
        all_goals first | exact hW.m | exact hW.p | decide +kernel
      · split at hm
        · rename_i hcc; subst hcc
          exact wpAny_mono (tr_sq T hW) (fun f s₃ T' => .inl (nx _ _ _ (by omega) hm f s₃ T')) fun _ _ e => e
        · cases hm
    | A =>
      obtain ⟨t, rfl⟩ := st_str hv (by decide)
      rw [mrun] at hm
      split at hm
      · rename_i hcc; subst hcc
        split at hm
        · rename_i ht
          cases hm
          refine wpAny_mono (tr_ab T ht) (fun f s₃ T' => .inr ?_) fun _ _ e => e
          obtain ⟨e1, h₂, k₂, m₂, e2, R'⟩ := RT.of kp1 hi1 (by omega) T'
          exact ⟨e1, h₂, k₂, m₂, i + 1, e2, R', rfl⟩
        · cases hm
      · split at hm
        · rename_i hcc; subst hcc
          exact wpAny_mono (tr_aa T hW) (fun f s₃ T' => .inl (nx _ _ _ l2 hm f s₃ T')) fun _ _ e => e
        · split at hm
          · rename_i hcc; subst hcc
            exact wpAny_mono (tr_aq T) (fun f s₃ T' => .inl (nx _ _ _ (by omega) hm f s₃ T')) fun _ _ e => e
          · split at hm
            · rename_i hcc; subst hcc
              exact wpAny_mono (tr_ad T) (fun f s₃ T' => .inl (nx _ _ _ (by omega) hm f s₃ T')) fun _ _ e => e
            · cases hm
    | Q =>
      obtain ⟨t, rfl⟩ := st_str hv (by decide)
      rw [mrun] at hm
      split at hm
      · rename_i hcc; subst hcc
        exact wpAny_mono (tr_qc (st := .Q) T (by decide +kernel) (by decide +kernel) (by decide +kernel) (by decide +kernel) (by decide +kernel)) (fun f s₃ T' => .inl (nx _ _ _ (by omega) hm f s₃ T')) fun _ _ e => e
      · split at hm
        · rename_i hcc
          refine wpAny_mono (tr_qo (st := .Q) T (by decide +kernel) (by decide +kernel) ?_ ?_ ?_ ?_ (.inl rfl)) (fun f s₃ T' => .inl (nx _ _ _ l1 hm f s₃ T')) fun _ _ e => e
          all_goals rcases hcc with rfl | rfl | rfl | rfl
          all_goals decide +kernel
        · cases hm
    | D =>
      obtain ⟨t, rfl⟩ := st_str hv (by decide)
      rw [mrun] at hm
      split at hm
      · rename_i hcc; subst hcc
        exact wpAny_mono (tr_qc (st := .D) T (by decide +kernel) (by decide +kernel) (by decide +kernel) (by decide +kernel) (by decide +kernel)) (fun f s₃ T' => .inl (nx _ _ _ (by omega) hm f s₃ T')) fun _ _ e => e
      · split at hm
        · rename_i hcc; subst hcc
          exact wpAny_mono (tr_qo (st := .D) T (by decide +kernel) (by decide +kernel) (by decide +kernel) (by decide +kernel) (by decide +kernel) (by decide +kernel) (.inr rfl)) (fun f s₃ T' => .inl (nx _ _ _ l1 hm f s₃ T')) fun _ _ e => e
        · cases hm
end
section
variable {w : World} {A : Around} {E : Value → Shared → Prop} {h : Heap} {g : Array GenState} {d : Drawn} {k : Nat} {os : OsState} {env : Env} {pos : Pos} {x dx y dy rp rf L : Addr} {W line : Str} {m : Str → Option Value}
theorem LX.lts {i : Nat} {v : Value} {tk : Str} (X : LX h x dx y dy rp rf W line i v tk) : x < h.objs.size ∧ dx < h.objs.size ∧ y < h.objs.size ∧ dy < h.objs.size := by
  obtain ⟨mA, t, I, _, _, _, S, _⟩ := X
  obtain ⟨mB, _, _, J, _⟩ := S.all
  obtain ⟨ox, e, _⟩ := I.at_
  obtain ⟨oy, e', _⟩ := J.at_
  exact ⟨Heap.lt_size e, I.ns.ns.lt, Heap.lt_size e', J.ns.ns.lt⟩
/-- what read_token hands back -/
def rtVal (res : MRes) (u : Tok) : Value := if (res.2.2.1 = false ∧ res.2.1 = "") then .none else .str res.2.1 u
theorem rt_spec {i : Nat} {v : Value} {st : St} {res : MRes} (hd : A.depth + 10 < recursionLimit) (ok : Ok w h) (hv : StV st v) (X : LX h x dx y dy rp rf W line i v "") (hx : line.length ≤ 9999) (hi : i ≤ line.length) (hW : WOk W)
    (hm : mrun st "" false (line.cps.toList.drop i) = some res) :
    wpAny (MM w) A (call (.ref 720) [.ref x]) (fun r s' => ∃ h' k' u v' i', s' = ⟨h', g, d, k', os⟩ ∧ Ok w h' ∧ r = rtVal res u ∧ StV res.1 v' ∧ LX h' x dx y dy rp rf W line i' v' "" ∧ i' ≤ line.length ∧ line.cps.toList.drop i' = res.2.2.2 ∧
      (∀ b o, b ≠ dx → b ≠ dy → h.get? b = some o → h'.get? b = some o)) E ⟨h, g, d, k, os⟩ := by
  refine callP (nm := "read_token") (q := "shlex.read_token") (dd := oSub (oSt pw 25) 6) (dflt := .none) (pm := .str "cpy313.shlex" 1115) (c := 719) (binds := [("self", .ref x)]) ok (a720 ok) (c719 ok) (by omega) (fun _ => by kernel_rfl!) (by kernel_rfl!) (fun h₁ k₁ F => ?_) (by kernel_rfl!)
  obtain ⟨l1, l2, l3, l4⟩ := X.lts
  have hLn : h.get? h.objs.size = none := fresh_none h
  have hL : 838 ≤ h.objs.size := Heap.lt_size (a837 ok)
  have ne : ∀ b o, h.get? b = some o → b ≠ h.objs.size := fun b o e q => by rw [q, hLn] at e; cases e
  have e1 : x ≠ h.objs.size := Nat.ne_of_lt l1
  have e2 : dx ≠ h.objs.size := Nat.ne_of_lt l2
  have e3 : y ≠ h.objs.size := Nat.ne_of_lt l3
  have e4 : dy ≠ h.objs.size := Nat.ne_of_lt l4
  have ok1 := ok.fr F
  have X1 := X.keep F.keep
  have kp1 := F.keep
  refine wpAny_execs_cons ?_
  repeat walk_at "gg"
  refine rSt F (fun h₂ k₂ F2 kk2 => ?_) (by kernel_rfl!) (by kernel_rfl!)
  have kp2 := F2.keep
  clear F ok1 X1 kp1
  repeat walk_at "gg"
  rename_i te _
  refine rSt F2 (fun h₃ k₃ F3 kk3 => ?_) (by kernel_rfl!) (by kernel_rfl!)
  have kp3 := F3.keep
  have X3 : LX h₃ x dx y dy rp rf W line i v "" := X.keep kp3
  have ok3 := ok.fr F3
  clear F2 kp2
  repeat walk_at "gg"
  refine wpAny_While ?_
  refine codeAny_whileLoop (fun j s' => ∃ h' k' m' i' st' tk' q', s' = ⟨h', g, d, k', os⟩ ∧ RT w h h' m' x dx y dy rp rf h.objs.size W line i' st' tk' q' te ∧ mrun st' tk' q' (line.cps.toList.drop i') = some res ∧ j = line.length + 1 - i') ?_ (line.length + 1 - i)
    ⟨h₃, k₃, _, i, st, _, _, rfl, ⟨ok3, ⟨F3.ns, fun b o q => by simp [Heap.get?] at q, Nat.zero_le _⟩, by walk_at "lk", by walk_at "lk", by walk_at "lk", ⟨v, hv, X3⟩, hi, Nat.zero_le _, fun b o _ _ _ e => kp3 b o e⟩, hm, rfl⟩
  clear F3
  rintro j s' ⟨h', k', m', i', st', tk', q', rfl, R, hm', rfl⟩
  refine isTrue_plain ?_ (by with_unfolding_all rfl)
  refine wpAny_Constant_bool (wpAny_truthy_bool ?_)
  rw [if_pos rfl]
  refine wpAny_mono (rt_turn (A := A.deeper _) (by show A.depth + 1 + 9 < _; omega) hL ⟨e2.symm, e1.symm⟩ ⟨e4.symm, e3.symm⟩ hx hW R hm') (fun f s₃ hf => ?_) (fun _ _ e => e.elim)
  rcases hf with ⟨rfl, h₄, k₄, m₄, st₄, tk₄, q₄, rfl, R4, hm4⟩ | ⟨rfl, h₄, k₄, m₄, i₄, rfl, R4, hdrop⟩
  · exact ⟨line.length + 1 - (i' + 1), by have := R4.i_le; omega, h₄, k₄, m₄, i' + 1, st₄, tk₄, q₄, rfl, R4, hm4, rfl⟩
  clear hm R hm' X3 ok3
  obtain ⟨ok4, F4, m1, m2, m3, ⟨v4, hv4, X4⟩, hi4, htk4, kp4⟩ := R4
  obtain ⟨st4, tk4, q4, rest⟩ := res
  dsimp only at hv4 m2 X4 htk4 hdrop
  have htl : tk4.length ≤ 9999 := Nat.le_trans htk4 (Nat.le_trans hi4 hx)
  obtain ⟨mA, tt, I, Fx, hst, htk, S, hap, n, u', hln⟩ := X4
  have Fx0 := Fx
  obtain ⟨f1, f2, f3, ⟨_, f4⟩, ⟨_, f5⟩, ⟨_, f6⟩, f7, ⟨_, f8⟩, ⟨_, f9⟩, ⟨_, f10⟩, f11, ⟨_, f12⟩, f13, f14, ⟨_, f15⟩, f16⟩ := Fx
  have p := pc752 w.params
  show wpAny _ _ (execs _ _) _ _ _
  refine wpAny_execs_cons ?_
  repeat walk_at "gg"
  refine rSt F4 (fun h₅ k₅ F5 kk5 => ?_) (by kernel_rfl!) (by kernel_rfl!)
  have kk5' : ∀ b o, b ≠ h.objs.size → h₄.get? b = some o → h₅.get? b = some o := fun b o n e => kk5 b o e n
  have ok5 : Ok w h₅ := ok4.set hL kk5'
  have I5 : IN h₅ x dx 752 lexN mA := I.off e1 e2 kk5'
  have S5 : SIO h₅ y dy line i₄ := S.off e3 e4 kk5'
  clear F4 ok4 I S
  repeat walk_at "gg"
  refine I5.set ok5 p (by kernel_rfl!) (by decide +kernel) (by decide) (fun h₆ k₆ I6 kk6 => ?_)
  have ok6 := ok5.set I5.hi kk6
  have F6 : Fr ({} : Heap) h.objs.size h₆ _ := ⟨F5.ns.at' fun o e => kk6 _ o e2.symm e, fun b o q => by simp [Heap.get?] at q, Nat.zero_le _⟩
  have S6 : SIO h₆ y dy line i₄ := S5.off hap.2.2 (Ne.symm hap.1) kk6
  have kp6 : ∀ b o, b ≠ dx → b ≠ dy → h.get? b = some o → h₆.get? b = some o := fun b o n1 n2 e => kk6 _ _ n1 (kk5' _ _ (ne b o e) (kp4 b o (ne b o e) n1 n2 e))
  clear F5 ok5 I5 S5
  cases q4 with
  | true =>
    repeat walk_at "gg"
    exact ⟨h₆, _, tt, v4, i₄, rfl, ok6, by unfold rtVal; rw [if_neg (by simp)]; rfl, hv4, ⟨_, _, I6, Fx0.set (.inl rfl), by walk_at "lk", by walk_at "lk", S6, hap, n, u', by walk_at "lk"⟩, hi4, hdrop, kp6⟩
  | false =>
    cases hb : (tk4 == (("" : String) : Str)) with
    | false =>
      repeat walk_at "gg"
      exact ⟨h₆, _, tt, v4, i₄, rfl, ok6, by unfold rtVal; rw [if_neg (fun q => by have q2 : tk4 = _ := q.2; rw [q2] at hb; exact absurd hb (by decide +kernel))]; rfl, hv4, ⟨_, _, I6, Fx0.set (.inl rfl), by walk_at "lk", by walk_at "lk", S6, hap, n, u', by walk_at "lk"⟩, hi4, hdrop, kp6⟩
    | true =>
      repeat walk_at "gg"
      refine rSt F6 (fun h₇ k₇ F7 kk7 => ?_) (by kernel_rfl!) (by kernel_rfl!)
      have kk7' : ∀ b o, b ≠ h.objs.size → h₆.get? b = some o → h₇.get? b = some o := fun b o n e => kk7 b o e n
      have ok7 : Ok w h₇ := ok6.set hL kk7'
      have I7 := I6.off e1 e2 kk7'
      have S7 : SIO h₇ y dy line i₄ := S6.off e3 e4 kk7'
      clear F6 ok6 I6 S6
      repeat walk_at "gg"
      exact ⟨h₇, _, tt, v4, i₄, rfl, ok7, by unfold rtVal; rw [if_pos ⟨rfl, eq_of_beq hb⟩]; rfl, hv4, ⟨_, _, I7, Fx0.set (.inl rfl), by walk_at "lk", by walk_at "lk", S7, hap, n, u', by walk_at "lk"⟩, hi4, hdrop, fun b o n1 n2 e => kk7 _ _ (kp6 b o n1 n2 e) (ne b o e)⟩
end
/-- an empty deque -/
def DQ (h : Heap) (a : Addr) : Prop := ∃ o n, h.get? a = some o ∧ o.cls = .type "collections.deque" ∧ o.data = .fields #[.none, n]
theorem DQ.at' {h h' : Heap} {a : Addr} (x : DQ h a) (k : ∀ o, h.get? a = some o → h'.get? a = some o) : DQ h' a := let ⟨o, n, e, r⟩ := x; ⟨o, n, k _ e, r⟩
theorem noBool_dq : typeLookup (.type "collections.deque") "__bool__" = pure none := by rw [typeLookup_type, builtinLookup_eq_fast]; kernel_rfl
theorem slot_dq_len : Slot "collections.deque" "__len__" "collections.deque.__len__" :=
  Slot.of (owner := "collections.deque") (n := "__len__") (by rw [typeLookup_type, builtinLookup_eq_fast]; kernel_rfl) (by decide +kernel) (by decide +kernel) (by decide +kernel) (.inl (by decide +kernel)) (by rw [isSubtype_type]; kernel_rfl)
theorem entry_dq_len : entryFor table "collections.deque.__len__" = some Builtin.«collections.deque.__len__» := entryFor_of_tree (by kernel_rfl)
theorem args_dq_len (v : Value) : argsOk "collections.deque.__len__" ⟨[v], []⟩ := by unfold argsOk; kernel_rfl
section
variable {prog : Program} {w : World} {A : Around} {E : Value → Shared → Prop} {h : Heap} {g : Array GenState} {d : Drawn} {k : Nat} {os : OsState}
theorem truthy_dq {l : Addr} {Q : Bool → Shared → Prop} (hl : DQ h l) (H : ∀ k', Q false ⟨h, g, d, k', os⟩) : wpAny (model prog w) A (truthy (.ref l)) Q E ⟨h, g, d, k, os⟩ := by
  obtain ⟨o, n, ho, hc, hd⟩ := hl
  have hT : (⟨h, g, d, k, os⟩ : Shared).TypeIs (.ref l) "collections.deque" := ⟨o, ho, hc⟩
  have key : wpAny (model prog w) A (runValue (.builtin "len" ⟨[.ref l], []⟩)) (fun r s' => ∃ t, r = .int 0 t ∧ Q false s') E ⟨h, g, d, k, os⟩ := by
    refine wpAny_runValue (codeAny_builtin entry_len ?_)
    rw [Around.under_plainId plain_len _]
    unfold Builtin.«len»
    refine wpAny_bind (m := oneArg "len" _) (wpAny_pure ?_)
    refine wpAny_bind (m := callSpecial? (.ref l) (Str.ofString "__len__")) (wpAny_callSpecial?_slot (name := Str.ofString "__len__") hT slot_dq_len (wpAny_call_entry slot_dq_len hT entry_dq_len ?_ (args_dq_len _)))
    show wpAny _ _ (do retInt (← Builtin.Deque.size (.ref l))) _ _ _
    unfold Builtin.Deque.size
    refine wpAny_bind (wpAny_bind (wpAny_fieldsOf ho hd (wpAny_pure ?_)))
    refine wpAny_bind (wpAny_mkInt (wpAny_pure ⟨_, rfl, ?_⟩))
    refine wpAny_bind (wpAny_holding (wpAny_pure ?_))
    refine wpAny_bind (wpAny_letGo ?_)
    show wpAny _ _ (if (0 : Int) < 0 then _ else _) _ _ _
    rw [if_neg (by decide)]
    show wpAny _ _ (if (0 : Int) ≥ 2 ^ 63 then _ else _) _ _ _
    rw [if_neg (by decide)]
    exact wpAny_bind (wpAny_mkInt (wpAny_pure ⟨_, rfl, H _⟩))
  unfold truthy
  first
    | refine wpAny_bind (wpAny_callSpecial?_none (name := Str.ofString "__bool__") hT noBool_dq ?_)
    | refine wpAny_bind (wpAny_pure (wpAny_bind (wpAny_callSpecial?_none (name := Str.ofString "__bool__") hT noBool_dq ?_)))
  first
    | refine wpAny_bind (wpAny_specialOf (name := Str.ofString "__len__") hT slot_dq_len.lookup ?_)
    | refine wpAny_bind (wpAny_pure (wpAny_bind (wpAny_specialOf (name := Str.ofString "__len__") hT slot_dq_len.lookup ?_)))
  first
    | exact wpAny_bind (wpAny_mono key (fun r s' h' => by obtain ⟨t, rfl, hq⟩ := h'; exact wpAny_pure hq) fun _ _ e => e)
    | exact wpAny_bind (wpAny_pure (wpAny_bind (wpAny_mono key (fun r s' h' => by obtain ⟨t, rfl, hq⟩ := h'; exact wpAny_pure hq) fun _ _ e => e)))
end
section
variable {w : World} {A : Around} {E : Value → Shared → Prop} {h : Heap} {g : Array GenState} {d : Drawn} {k : Nat} {os : OsState} {env : Env} {pos : Pos} {x dx y dy rp rf L : Addr} {W line : Str} {m : Str → Option Value}
theorem DQ.ne {a b : Addr} {mB : Str → Option Value} (D : DQ h a) (N : h.Ns b mB) : a ≠ b := by
  rintro rfl
  obtain ⟨o, n, e, _, hd⟩ := D
  obtain ⟨o', es, ep, e', hd', _⟩ := N
  rw [e] at e'; cases e'; rw [hd] at hd'; cases hd'
theorem LX.nss {i : Nat} {v : Value} {tk : Str} (X : LX h x dx y dy rp rf W line i v tk) : (∃ mA, h.Ns dx mA) ∧ ∃ mB, h.Ns dy mB := by
  obtain ⟨mA, t, I, _, _, _, S, _⟩ := X
  obtain ⟨mB, _, _, J, _⟩ := S.all
  exact ⟨⟨_, I.ns.ns⟩, ⟨_, J.ns.ns⟩⟩
/-- what get_token hands back is what read_token does -/
theorem gt_spec {i : Nat} {v : Value} {st : St} {res : MRes} (hd : A.depth + 11 < recursionLimit) (ok : Ok w h) (hv : StV st v) (X : LX h x dx y dy rp rf W line i v "") (Dp : DQ h rp) (Df : DQ h rf) (hx : line.length ≤ 9999) (hi : i ≤ line.length) (hW : WOk W)
    (hm : mrun st "" false (line.cps.toList.drop i) = some res) :
    wpAny (MM w) A (call (.ref 713) [.ref x]) (fun r s' => ∃ h' k' u v' i', s' = ⟨h', g, d, k', os⟩ ∧ Ok w h' ∧ r = rtVal res u ∧ StV res.1 v' ∧ LX h' x dx y dy rp rf W line i' v' "" ∧ i' ≤ line.length ∧ line.cps.toList.drop i' = res.2.2.2 ∧
      (∀ b o, b ≠ dx → b ≠ dy → h.get? b = some o → h'.get? b = some o)) E ⟨h, g, d, k, os⟩ := by
  refine callP (nm := "get_token") (q := "shlex.get_token") (dd := oSub (oSt pw 25) 5) (dflt := .none) (pm := .str "cpy313.shlex" 1115) (c := 712) (binds := [("self", .ref x)]) ok (a713 ok) (c712 ok) (by omega) (fun _ => by kernel_rfl!) (by kernel_rfl!) (fun h₁ k₁ F => ?_) (by kernel_rfl!)
  obtain ⟨l1, l2, l3, l4⟩ := X.lts
  have hLn : h.get? h.objs.size = none := fresh_none h
  have hL : 838 ≤ h.objs.size := Heap.lt_size (a837 ok)
  have ne : ∀ b o, h.get? b = some o → b ≠ h.objs.size := fun b o e q => by rw [q, hLn] at e; cases e
  have e1 : x ≠ h.objs.size := Nat.ne_of_lt l1
  have e2 : dx ≠ h.objs.size := Nat.ne_of_lt l2
  have e3 : y ≠ h.objs.size := Nat.ne_of_lt l3
  have e4 : dy ≠ h.objs.size := Nat.ne_of_lt l4
  obtain ⟨⟨mx, nx⟩, ⟨my, ny⟩⟩ := X.nss
  have rfx : rf ≠ dx := Df.ne nx
  have rfy : rf ≠ dy := Df.ne ny
  have rfL : rf ≠ h.objs.size := by obtain ⟨o, n, e, _⟩ := Df; exact ne _ _ e
  have ok1 := ok.fr F
  have X1 := X.keep F.keep
  have Dp1 : DQ h₁ rp := Dp.at' fun o => F.keep _ o
  have p := pc752 w.params
  obtain ⟨mA, tt, I, Fx, hst, htk, S, hap, n, u', hln⟩ := id X1
  obtain ⟨f1, f2, f3, ⟨_, f4⟩, ⟨_, f5⟩, ⟨_, f6⟩, f7, ⟨_, f8⟩, ⟨_, f9⟩, ⟨_, f10⟩, f11, ⟨_, f12⟩, f13, f14, ⟨_, f15⟩, f16⟩ := Fx
  refine wpAny_execs_cons ?_
  repeat walk_at "gg"
  refine truthy_dq Dp1 (fun _ => ?_)
  repeat walk_at "gg"
  refine rMeth (f := 720) (by with_unfolding_all rfl) (by with_unfolding_all rfl) (by with_unfolding_all rfl) ?_
  repeat walk_at "gg"
  refine ⟨x, dx, 752, lexN, mA, rfl, ok1, I, p, by kernel_rfl!, by kernel_rfl!, f16 _ (by decide +kernel), ?_⟩
  refine cwM0 (ob720 pw w.params) ⟨a720 ok1, rfl⟩ ?_
  refine wpAny_mono (rt_spec (by show A.depth + 1 + 10 < _; omega) ok1 hv X1 hx hi hW hm) (fun r s' hr => ?_) (fun _ _ e => e)
  obtain ⟨h₂, k₂, u2, v2, i2, rfl, ok2, rfl, hv2, X2, hi2, hdr, kk2⟩ := hr
  have F2 : Fr ({} : Heap) h.objs.size h₂ _ := ⟨F.ns.at' fun o e => kk2 _ o e2.symm e4.symm e, fun b o q => by simp [Heap.get?] at q, Nat.zero_le _⟩
  have kp2 : ∀ b o, b ≠ dx → b ≠ dy → h.get? b = some o → h₂.get? b = some o := fun b o n1 n2 e => kk2 b o n1 n2 (F.keep b o e)
  clear F ok1 X1 I S hst htk hln f1 f2 f3 f4 f5 f6 f7 f8 f9 f10 f11 f12 f13 f14 f15 f16
  refine rSt F2 (fun h₃ k₃ F3 kk3 => ?_) (by kernel_rfl!) (by kernel_rfl!)
  have kk3' : ∀ b o, b ≠ h.objs.size → h₂.get? b = some o → h₃.get? b = some o := fun b o n e => kk3 b o e n
  have ok3 : Ok w h₃ := ok2.set hL kk3'
  have kp3 : ∀ b o, b ≠ dx → b ≠ dy → h.get? b = some o → h₃.get? b = some o := fun b o n1 n2 e => kk3' b o (ne b o e) (kp2 b o n1 n2 e)
  have Df3 : DQ h₃ rf := Df.at' fun o e => kp3 _ o rfx rfy e
  obtain ⟨mA, tt, I2, Fx, hst, htk, S2, hap, n, u', hln⟩ := X2
  have I3 : IN h₃ x dx 752 lexN mA := I2.off e1 e2 kk3'
  have S3 : SIO h₃ y dy line i2 := S2.off e3 e4 kk3'
  have X3 : LX h₃ x dx y dy rp rf W line i2 v2 "" := ⟨mA, tt, I3, Fx, hst, htk, S3, hap, n, u', hln⟩
  obtain ⟨f1, f2, f3, ⟨_, f4⟩, ⟨_, f5⟩, ⟨_, f6⟩, f7, ⟨_, f8⟩, ⟨_, f9⟩, ⟨_, f10⟩, f11, ⟨_, f12⟩, f13, f14, ⟨_, f15⟩, f16⟩ := Fx
  clear F2 ok2 I2 S2 S3
  by_cases hc : res.2.2.1 = false ∧ res.2.1 = ""
  · have hval : ∀ u, rtVal res u = .none := fun u => by unfold rtVal; rw [if_pos hc]
    rw [hval] at F3
    repeat walk_at "gg"
    refine wpAny_While (codeAny_whileLoop (fun j s' => ∃ k', s' = ⟨h₃, g, d, k', os⟩) ?_ 0 ⟨_, rfl⟩)
    rintro j s' ⟨k', rfl⟩
    repeat walk_at "gg"
    refine truthy_dq Df3 (fun _ => ?_)
    repeat walk_at "gg"
    exact ⟨h₃, _, u2, v2, i2, rfl, ok3, (hval u2).symm, hv2, X3, hi2, hdr, kp3⟩
  · have hval : rtVal res u2 = .str res.2.1 u2 := by unfold rtVal; rw [if_neg hc]
    rw [hval] at F3
    repeat walk_at "gg"
    refine wpAny_While (codeAny_whileLoop (fun j s' => ∃ k', s' = ⟨h₃, g, d, k', os⟩) ?_ 0 ⟨_, rfl⟩)
    rintro j s' ⟨k', rfl⟩
    repeat walk_at "gg"
    exact ⟨h₃, _, u2, v2, i2, rfl, ok3, hval.symm, hv2, X3, hi2, hdr, kp3⟩
end
/-- all goes on, but for the slots of what lies in S -/
def UpF (S : List Addr) (h h' : Heap) : Prop := ∀ b o, h.get? b = some o → (b ∉ S → h'.get? b = some o) ∧ ∃ sl, h'.get? b = some { o with slots := sl }
theorem UpF.keep {S : List Addr} {h h' : Heap} (k : ∀ b o, h.get? b = some o → h'.get? b = some o) : UpF S h h' := fun b o e => ⟨fun _ => k b o e, o.slots, k b o e⟩
theorem UpF.trans {S : List Addr} {h₁ h₂ h₃ : Heap} (x : UpF S h₁ h₂) (y : UpF S h₂ h₃) : UpF S h₁ h₃ := fun b o e => by
  obtain ⟨x1, sl, x2⟩ := x b o e
  obtain ⟨y1, sl2, y2⟩ := y b _ x2
  exact ⟨fun hb => (y b o (x1 hb)).1 hb, sl2, y2⟩
theorem UpF.ns {S : List Addr} {h h' : Heap} {a : Addr} {m : Str → Option Value} (x : UpF S h h') (hn : h.Ns a m) : h'.Ns a m := by
  obtain ⟨o, es, ep, ho, r⟩ := hn
  obtain ⟨_, sl, hs⟩ := x a o ho
  exact ⟨_, es, ep, hs, r⟩
theorem UpF.isList {S : List Addr} {h h' : Heap} {a : Addr} {vs : Array Value} (x : UpF S h h') (hl : h.IsList a vs) : h'.IsList a vs := by
  obtain ⟨o, ho, r⟩ := hl
  obtain ⟨_, sl, hs⟩ := x a o ho
  exact ⟨_, hs, r⟩
theorem UpF.sl {S : List Addr} {h h' : Heap} {a : Addr} {ss : List Str} (x : UpF S h h') (hl : SL h a ss) : SL h' a ss := let ⟨vs, a, b⟩ := hl; ⟨vs, x.isList a, b⟩
theorem UpF.frames {S : List Addr} {h h' base : Heap} {fs : List Env} (x : UpF S h h') (hl : h.FunFrames base fs) : h'.FunFrames base fs :=
  hl.of_keeps fun b o ho hn => let ⟨_, _, e⟩ := x b o ho; ⟨_, e, rfl⟩
theorem UpF.ok {S : List Addr} {w : World} {h h' : Heap} (x : UpF S h h') (ok : Ok w h) (hS : ∀ b ∈ S, 838 ≤ b) : Ok w h' :=
  ok.off fun b o hb e => (x b o e).1 fun q => absurd (hS b q) (Nat.not_le.mpr hb)
theorem frames_at {h h' base : Heap} : ∀ {l : List Env}, h.FunFrames base l → (∀ b ∈ fSet l, ∀ o, h.get? b = some o → h'.get? b = some o) → h'.FunFrames base l
  | [], _, _ => trivial
  | env :: l, hl, k => by
    obtain ⟨hk, ⟨L, o, hf, hn, ho, hd⟩, hr⟩ := hl
    exact ⟨hk, ⟨L, o, hf, hn, k L (by show L ∈ List.filterMap _ _; rw [List.filterMap_cons, hf]; exact List.mem_cons_self) o ho, hd⟩, frames_at hr fun b hb => k b (by show b ∈ List.filterMap _ _; rw [List.filterMap_cons, hf]; exact List.mem_cons_of_mem _ hb)⟩
theorem below_upF {A : Around} {h h' : Heap} {outer : List Env} {S : List Addr} (K : Below A ({} : Heap) outer h) (x : UpF S h h') : Below A ({} : Heap) outer h' :=
  ⟨K.stack, fun b o q => by simp [Heap.get?] at q, x.frames K.frames⟩
theorem below_at {A : Around} {h h' : Heap} {outer : List Env} (K : Below A ({} : Heap) outer h) (x : ∀ b ∈ fSet outer, ∀ o, h.get? b = some o → h'.get? b = some o) : Below A ({} : Heap) outer h' :=
  ⟨K.stack, fun b o q => by simp [Heap.get?] at q, frames_at K.frames x⟩
theorem mem_fSet {l : List Env} {b : Addr} (h : b ∈ fSet l) : ∃ env ∈ l, env.frame = some b := by
  obtain ⟨env, a, e⟩ := List.mem_filterMap.mp h
  exact ⟨env, a, e⟩
section
variable {M : Model} {A : Around} {E : Value → Shared → Prop} {h : Heap} {g : Array GenState} {d : Drawn} {k : Nat} {os : OsState} {env : Env} {outer : List Env} {L e : Addr} {X : String}
theorem raise_up {h₁ : Heap} {Q : Unit → Shared → Prop} (K : Below A ({} : Heap) (env :: outer) h) (hf : env.frame = some L) (hx : Heap.MadeExc h h₁ e X [])
    (H : ∀ h', UpF (fSet (env :: outer)) h h' → (⟨h', g, d, k, os⟩ : Shared).TypeIs (.ref e) X → Q () ⟨h', g, d, k, os⟩) : wpAny M A (leaving env (.ref e)) Q E ⟨h₁, g, d, k, os⟩ := by
  have hin : ∀ en ∈ env :: outer, ∀ a, en.frame = some a → a ∈ fSet (env :: outer) := fun en he a ea => List.mem_filterMap.mpr ⟨en, he, ea⟩
  have FF := funFrames_hide K.frames hin
  have hst : (hideAll h (fSet (env :: outer))).StaysIn h₁ := fun b o q => hx.keeps b o (of_hideAll _ q)
  have FF1 : h₁.FunFrames (hideAll h (fSet (env :: outer))) (env :: outer) := FF.of_keeps fun b o q _ => ⟨o, hx.keeps b o q, rfl⟩
  have hen : (hideAll h (fSet (env :: outer))).get? e = none := by
    cases q : (hideAll h (fSet (env :: outer))).get? e with
    | none => rfl
    | some o => have := of_hideAll _ q; rw [hx.new] at this; cases this
  obtain ⟨t, ht, _⟩ := hx.there
  have nw : Nw (hideAll h (fSet (env :: outer))) h₁ e (.type X) .none := ⟨hen, _, _, ht, rfl, rfl, rfl, rfl⟩
  unfold leaving
  refine wpAny_bind (note_first (base := hideAll h (fSet (env :: outer))) (s := ⟨h₁, g, d, k, os⟩) K.stack FF1 hf hst nw fun h₂ kn2 st2 tr2 => ?_)
  refine flight (base := hideAll h (fSet (env :: outer))) (S := fSet (env :: outer)) (s := ⟨h₂, g, d, k, os⟩) st2 tr2 fun h₃ kn3 st3 tr3 => ?_
  refine H h₃ (fun b o q => ?_) tr3.typeIs
  by_cases hb : b ∈ fSet (env :: outer)
  · refine ⟨fun n => absurd hb n, ?_⟩
    obtain ⟨_, o', ho', hnf⟩ := K.frames.mem hb
    rw [q] at ho'; cases ho'
    exact ((kn2.trans kn3) b o (hx.keeps b o q) hnf).2
  · have := st3 b o (hideAll_get _ q hb)
    exact ⟨fun _ => this, o.slots, this⟩
end
section
variable {w : World} {A : Around} {E : Value → Shared → Prop} {h : Heap} {g : Array GenState} {d : Drawn} {k : Nat} {os : OsState} {env : Env} {pos : Pos} {x dx y dy rp rf L : Addr} {W line : Str} {m : Str → Option Value} {outer : List Env}
def rtNone (res : MRes) : Prop := res.2.2.1 = false ∧ res.2.1 = ""
theorem next_spec {i : Nat} {v : Value} {st : St} {res : MRes} (hd : A.depth + 12 < recursionLimit) (hh : A.handled = none) (K : Below A ({} : Heap) outer h) (ok : Ok w h) (hv : StV st v) (X : LX h x dx y dy rp rf W line i v "") (Dp : DQ h rp) (Df : DQ h rf) (hx : line.length ≤ 9999) (hi : i ≤ line.length) (hW : WOk W)
    (hm : mrun st "" false (line.cps.toList.drop i) = some res) (dn : dx ∉ fSet outer ∧ dy ∉ fSet outer) :
    wpAny (MM w) A (call (.ref 749) [.ref x]) (fun r s' => ¬ rtNone res ∧ ∃ h' k' u v' i', s' = ⟨h', g, d, k', os⟩ ∧ Ok w h' ∧ r = .str res.2.1 u ∧ StV res.1 v' ∧ LX h' x dx y dy rp rf W line i' v' "" ∧ i' ≤ line.length ∧ line.cps.toList.drop i' = res.2.2.2 ∧
      (∀ b o, b ≠ dx → b ≠ dy → h.get? b = some o → h'.get? b = some o))
      (fun e s' => rtNone res ∧ ∃ h' k', s' = ⟨h', g, d, k', os⟩ ∧ s'.TypeIs e "StopIteration" ∧ ∀ b o, b ≠ dx → b ≠ dy → h.get? b = some o → (b ∉ fSet outer → h'.get? b = some o) ∧ ∃ sl, h'.get? b = some { o with slots := sl }) ⟨h, g, d, k, os⟩ := by
  refine callE (nm := "__next__") (q := "shlex.__next__") (dd := oSub (oSt pw 25) 10) (dflt := .none) (pm := .str "cpy313.shlex" 1115) (c := 748) (binds := [("self", .ref x)]) ok (a749 ok) (c748 ok) (by omega) (fun _ => by kernel_rfl!) (by kernel_rfl!) (fun h₁ k₁ F => ?_) (by kernel_rfl!)
  obtain ⟨l1, l2, l3, l4⟩ := X.lts
  have hLn : h.get? h.objs.size = none := fresh_none h
  have hL : 838 ≤ h.objs.size := Heap.lt_size (a837 ok)
  have ne : ∀ b o, h.get? b = some o → b ≠ h.objs.size := fun b o e q => by rw [q, hLn] at e; cases e
  have e1 : x ≠ h.objs.size := Nat.ne_of_lt l1
  have e2 : dx ≠ h.objs.size := Nat.ne_of_lt l2
  have e3 : y ≠ h.objs.size := Nat.ne_of_lt l3
  have e4 : dy ≠ h.objs.size := Nat.ne_of_lt l4
  have K1 := K.push (name := (("shlex.__next__" : String) : Str)) (scope := oScope (oSub (oSt pw 25) 10)) (a := 749) (cd := .ref 748) F (by kernel_rfl!)
  have ok1 := ok.fr F
  have X1 := X.keep F.keep
  have p := pc752 w.params
  obtain ⟨mA, tt, I, Fx, hst, htk, S, hap, n, u', hln⟩ := id X1
  have f16 := Fx.none
  refine wpAny_execs_cons ?_
  repeat walk_at "gg"
  refine rMeth (f := 713) (by with_unfolding_all rfl) (by with_unfolding_all rfl) (by with_unfolding_all rfl) ?_
  repeat walk_at "gg"
  refine ⟨x, dx, 752, lexN, mA, rfl, ok1, I, p, by kernel_rfl!, by kernel_rfl!, f16 _ (by decide +kernel), ?_⟩
  refine cwM0 (ob713 pw w.params) ⟨a713 ok1, rfl⟩ ?_
  refine wpAny_mono (gt_spec (by show A.depth + 1 + 11 < _; omega) ok1 hv X1 (Dp.at' fun o => F.keep _ o) (Df.at' fun o => F.keep _ o) hx hi hW hm) (fun r s' hr => ?_) (fun _ _ e => e)
  obtain ⟨h₂, k₂, u2, v2, i2, rfl, ok2, rfl, hv2, X2, hi2, hdr, kk2⟩ := hr
  have F2 : Fr ({} : Heap) h.objs.size h₂ _ := ⟨F.ns.at' fun o e => kk2 _ o e2.symm e4.symm e, fun b o q => by simp [Heap.get?] at q, Nat.zero_le _⟩
  have kp2 : ∀ b o, b ≠ dx → b ≠ dy → h.get? b = some o → h₂.get? b = some o := fun b o n1 n2 e => kk2 b o n1 n2 (F.keep b o e)
  have nS : ∀ b, b ∈ fSet (envOf (("shlex.__next__" : String) : Str) (oScope (oSub (oSt pw 25) 10)) h.objs.size 749 (.ref 748) :: outer) → b ≠ dx ∧ b ≠ dy := by
    intro b hb
    rcases List.mem_cons.mp hb with hb | hb
    · rw [show b = h.objs.size from hb]; exact ⟨e2.symm, e4.symm⟩
    · exact ⟨fun q => dn.1 (q ▸ hb), fun q => dn.2 (q ▸ hb)⟩
  have K2 : Below _ _ _ h₂ := below_at K1 fun b hb o e => kk2 b o (nS b hb).1 (nS b hb).2 e
  clear F ok1 X1 I S hst htk hln f16 Fx
  have K3 : ∀ h₃, (∀ b o, h₂.get? b = some o → b ≠ h.objs.size → h₃.get? b = some o) → ∀ m₃, h₃.Ns h.objs.size m₃ → Below (A.deeper (envOf (("shlex.__next__" : String) : Str) (oScope (oSub (oSt pw 25) 10)) h.objs.size 749 (.ref 748))) ({} : Heap) (envOf (("shlex.__next__" : String) : Str) (oScope (oSub (oSt pw 25) 10)) h.objs.size 749 (.ref 748) :: outer) h₃ := by
    intro h₃ kk m₃ hn
    obtain ⟨a1, a2, a3, a4, a5⟩ := K2
    refine ⟨a1, fun b o q => by simp [Heap.get?] at q, a3, ?_, frames_at a5 fun b hb o e => kk b o e fun q => ?_⟩
    · obtain ⟨o, es, ep, ho, hdd, _⟩ := hn
      exact ⟨h.objs.size, o, rfl, by simp [Heap.get?], ho, fun vs q => by rw [hdd] at q; cases q⟩
    · obtain ⟨_, o', ho', _⟩ := K.frames.mem hb
      exact ne b o' ho' q
  refine rSt F2 (fun h₃ k₃ F3 kk3 => ?_) (by kernel_rfl!) (by kernel_rfl!)
  have K4 := K3 h₃ kk3 _ F3.ns
  have kk3' : ∀ b o, b ≠ h.objs.size → h₂.get? b = some o → h₃.get? b = some o := fun b o n e => kk3 b o e n
  have ok3 : Ok w h₃ := ok2.set hL kk3'
  have kp3 : ∀ b o, b ≠ dx → b ≠ dy → h.get? b = some o → h₃.get? b = some o := fun b o n1 n2 e => kk3' b o (ne b o e) (kp2 b o n1 n2 e)
  obtain ⟨mA, tt, I2, Fx, hst, htk, S2, hap, n, u', hln⟩ := X2
  have I3 : IN h₃ x dx 752 lexN mA := I2.off e1 e2 kk3'
  have S3 : SIO h₃ y dy line i2 := S2.off e3 e4 kk3'
  have X3 : LX h₃ x dx y dy rp rf W line i2 v2 "" := ⟨mA, tt, I3, Fx, hst, htk, S3, hap, n, u', hln⟩
  obtain ⟨f1, f2, f3, ⟨_, f4⟩, ⟨_, f5⟩, ⟨_, f6⟩, f7, ⟨_, f8⟩, ⟨_, f9⟩, ⟨_, f10⟩, f11, ⟨_, f12⟩, f13, f14, ⟨_, f15⟩, f16⟩ := Fx
  clear F2 ok2 I2 S2 S3 K1 K2 K3
  by_cases hc : rtNone res
  · have hval : ∀ u, rtVal res u = .none := fun u => by unfold rtVal; exact if_pos hc
    rw [hval] at F3
    repeat walk_at "gg"
    refine owsi_raiseC hh ?_ (fun h₄ e hx4 => ?_)
    · repeat walk_at "gg"
      exact ⟨rfl, rfl⟩
    · refine raise_up K4 rfl hx4 (fun h₅ up ht => ?_)
      refine ⟨hc, h₅, _, rfl, ht, fun b o n1 n2 q => ?_⟩
      obtain ⟨u1, u2⟩ := up b o (kp3 b o n1 n2 q)
      exact ⟨fun hb => u1 fun hm => (List.mem_cons.mp hm).elim (fun r => ne b o q r) hb, u2⟩
  · have hval : rtVal res u2 = .str res.2.1 u2 := by unfold rtVal; exact if_neg hc
    rw [hval] at F3
    repeat walk_at "gg"
    exact ⟨hc, h₃, _, u2, v2, i2, rfl, ok3, rfl, hv2, X3, hi2, hdr, kp3⟩
end
/-- the tokens that the reader's runs give, one after the other -/
inductive Reads : St → List Nat → List Str → Prop
  | done {st : St} {l : List Nat} {res : MRes} : mrun st "" false l = some res → rtNone res → Reads st l []
  | more {st : St} {l : List Nat} {res : MRes} {ts : List Str} : mrun st "" false l = some res → ¬ rtNone res → Reads res.1 res.2.2.2 ts → Reads st l (res.2.1 :: ts)
theorem strs_push : ∀ {vs : List Value} {ss : List Str} (x : Str) (t : Tok), StrsAre vs ss → StrsAre (vs ++ [.str x t]) (ss ++ [x])
  | _, _, x, t, .nil => .cons _ _ .nil
  | _, _, x, t, .cons a u r => .cons a u (strs_push x t r)
section
variable {w : World} {A : Around} {E : Value → Shared → Prop} {h : Heap} {g : Array GenState} {d : Drawn} {k : Nat} {os : OsState} {x dx y dy rp rf S : Addr} {W line : Str} {outer : List Env}
theorem pyNext_lex {i : Nat} {v : Value} {st : St} {res : MRes} {Q : Option Value → Shared → Prop} (hd : A.depth + 12 < recursionLimit) (hh : A.handled = none) (K : Below A ({} : Heap) outer h) (ok : Ok w h) (hv : StV st v) (X : LX h x dx y dy rp rf W line i v "") (Dp : DQ h rp) (Df : DQ h rf) (hx : line.length ≤ 9999) (hi : i ≤ line.length) (hW : WOk W)
    (hm : mrun st "" false (line.cps.toList.drop i) = some res) (dn : dx ∉ fSet outer ∧ dy ∉ fSet outer)
    (H1 : ∀ h' k' u v' i', ¬ rtNone res → Ok w h' → StV res.1 v' → LX h' x dx y dy rp rf W line i' v' "" → i' ≤ line.length → line.cps.toList.drop i' = res.2.2.2 → (∀ b o, b ≠ dx → b ≠ dy → h.get? b = some o → h'.get? b = some o) → Q (some (.str res.2.1 u)) ⟨h', g, d, k', os⟩)
    (H2 : ∀ h' k', rtNone res → (∀ b o, b ≠ dx → b ≠ dy → h.get? b = some o → (b ∉ fSet outer → h'.get? b = some o) ∧ ∃ sl, h'.get? b = some { o with slots := sl }) → Q none ⟨h', g, d, k', os⟩) :
    wpAny (MM w) A (pyNext (.ref x)) Q E ⟨h, g, d, k, os⟩ := by
  obtain ⟨mA, t, I, _⟩ := id X
  obtain ⟨ox, od, I', _⟩ := I.inst
  unfold pyNext
  refine wpAny_bind (wpAny_attempt (special_fn (K := KK pw w.params) (name := "__next__") (f := 749) (args := []) (s := ⟨h, g, d, k, os⟩) ok.K I' (by kernel_rfl!) (by kernel_rfl!) (wpAny_mono (next_spec hd hh K ok hv X Dp Df hx hi hW hm dn) (fun r s' hr => ?_) (fun e s' he => ?_))))
  · obtain ⟨hn, h', k', u, v', i', rfl, ok', rfl, hv', X', hi', hdr, kk⟩ := hr
    exact wpAny_pure (H1 h' k' u v' i' hn ok' hv' X' hi' hdr kk)
  · obtain ⟨hn, h', k', rfl, hT, kk⟩ := he
    refine wpAny_bind (wpAny_isInstance hT (isSubtype_of_subB (b := true) (by decide +kernel)) ?_)
    exact wpAny_pure (H2 h' k' hn kk)
theorem loop_spec {res : Value} {R : Result → Shared → Prop} (hd : A.depth + 12 < recursionLimit) (hh : A.handled = none) (hx : line.length ≤ 9999) (hW : WOk W) (dn : dx ∉ fSet outer ∧ dy ∉ fSet outer) (hS : S ∉ fSet outer ∧ 838 ≤ S ∧ S ≠ rp ∧ S ≠ rf) :
    ∀ (ts : List Str) (st : St) (v : Value) (i : Nat) (h : Heap) (k : Nat) (acc : List Value) (c : Nat) (pre : List Str), Reads st (line.cps.toList.drop i) ts → Below A ({} : Heap) outer h → Ok w h → StV st v → LX h x dx y dy rp rf W line i v "" → DQ h rp → DQ h rf → i ≤ line.length →
      h.get? S = some { cls := .type "list", data := .seq acc.toArray c } → StrsAre acc pre → acc.length + ts.length ≤ 100 →
      (∀ h' k', SL h' S (pre ++ ts) → (∀ b o, b ≠ dx → b ≠ dy → b ≠ S → h.get? b = some o → (b ∉ fSet outer → h'.get? b = some o) ∧ ∃ sl, h'.get? b = some { o with slots := sl }) → R (.ok (.ret res)) ⟨h', g, d, k', os⟩) →
      codeAny (MM w) A (.builtin "list.extend.loop" ⟨[.ref S, .ref x, res], []⟩) R ⟨h, g, d, k, os⟩ := by
  intro ts
  induction ts with
  | nil =>
    intro st v i h k acc c pre hR K ok hv X Dp Df hi hl hacc hlen H
    obtain ⟨⟨mx, nx⟩, ⟨my, ny⟩⟩ := X.nss
    have sdx : S ≠ dx := by rintro rfl; obtain ⟨o, es, ep, ho, hdd, _⟩ := nx; rw [hl] at ho; cases ho; cases hdd
    have sdy : S ≠ dy := by rintro rfl; obtain ⟨o, es, ep, ho, hdd, _⟩ := ny; rw [hl] at ho; cases ho; cases hdd
    cases hR with
    | done hm hn =>
      refine codeAny_builtin F.entry_extend_loop ?_
      rw [Around.under_plainId F.plain_extend_loop _]
      show wpAny _ A.in1 (pyNext (.ref x) >>= _) _ _ _
      refine wpAny_bind (pyNext_lex hd hh K.in1 ok hv X Dp Df hx hi hW hm dn (fun _ _ _ _ _ q => absurd hn q) (fun h' k' _ kk => ?_))
      refine wpAny_pure (H h' k' ?_ (fun b o n1 n2 _ e => kk b o n1 n2 e))
      rw [List.append_nil]
      exact ⟨acc, ⟨_, (kk S _ sdx sdy hl).1 hS.1, rfl, c, rfl⟩, hacc⟩
  | cons t ts ih =>
    intro st v i h k acc c pre hR K ok hv X Dp Df hi hl hacc hlen H
    obtain ⟨⟨mx, nx⟩, ⟨my, ny⟩⟩ := X.nss
    have sdx : S ≠ dx := by rintro rfl; obtain ⟨o, es, ep, ho, hdd, _⟩ := nx; rw [hl] at ho; cases ho; cases hdd
    have sdy : S ≠ dy := by rintro rfl; obtain ⟨o, es, ep, ho, hdd, _⟩ := ny; rw [hl] at ho; cases ho; cases hdd
    have rpx : rp ≠ dx := Dp.ne nx
    have rpy : rp ≠ dy := Dp.ne ny
    have rfx : rf ≠ dx := Df.ne nx
    have rfy : rf ≠ dy := Df.ne ny
    have lt := X.lts
    cases hR with
    | more hm hn hrest =>
      rename_i mr
      refine codeAny_builtin F.entry_extend_loop ?_
      rw [Around.under_plainId F.plain_extend_loop _]
      show wpAny _ A.in1 (pyNext (.ref x) >>= _) _ _ _
      refine wpAny_bind (pyNext_lex hd hh K.in1 ok hv X Dp Df hx hi hW hm dn (fun h' k' u v' i' _ ok' hv' X' hi' hdr kk => ?_) (fun h' k' q _ => absurd q hn))
      have hl' := kk S _ sdx sdy hl
      show wpAny _ A.in1 (updateSeq S (·.push (.str mr.2.1 u)) >>= _) _ _ _
      refine wpAny_bind ?_
      refine wpAny_updateSeq (s := ⟨h', g, d, k', os⟩) hl' rfl ?_ (by simp only [List.size_toArray]; rw [sizeLine_eq]; simp only [List.length_cons] at hlen; omega) (by simp only [Array.size_push, List.size_toArray]; rw [sizeLine_eq]; simp only [List.length_cons] at hlen; omega)
      refine wpAny_pure ⟨plainId_quiet F.plain_extend_loop _, ?_⟩
      have hnew := Heap.get?_update_self (Obj.mapSeq (·.push (Value.str mr.2.1 u))) hl' rfl
      have oth : ∀ b o, b ≠ S → h'.get? b = some o → (h'.update S (Obj.mapSeq (·.push (Value.str mr.2.1 u)))).get? b = some o := fun b o nb e => (Heap.get?_update_other _ _ (Ne.symm nb)).trans e
      have hnew' : (h'.update S (Obj.mapSeq (·.push (Value.str mr.2.1 u)))).get? S = some { cls := .type "list", data := .seq (acc ++ [Value.str mr.2.1 u]).toArray (c + 1) } := by
        rw [hnew]
        simp [Obj.mapSeq]
      generalize h'.update S (Obj.mapSeq (·.push (Value.str mr.2.1 u))) = h₂ at hnew hnew' oth
      have X2 : LX h₂ x dx y dy rp rf W line i' v' "" := by
        obtain ⟨mA, tt, I, Fx, a1, a2, S0, a3, a4⟩ := X'
        obtain ⟨ox, ex, hcx, hnx, _⟩ := I.at_
        have xS : x ≠ S := by rintro rfl; rw [hl'] at ex; cases ex; cases hcx
        obtain ⟨mB, _, _, J, _⟩ := S0.all
        obtain ⟨oy, ey, hcy, hny, _⟩ := J.at_
        have yS : y ≠ S := by rintro rfl; rw [hl'] at ey; cases ey; cases hcy
        exact ⟨mA, tt, I.off xS (Ne.symm sdx) oth, Fx, a1, a2, S0.off yS (Ne.symm sdy) oth, a3, a4⟩
      have nS : ∀ b, b ∈ fSet outer → b ≠ dx ∧ b ≠ dy ∧ b ≠ S := fun b hb => ⟨fun q => dn.1 (q ▸ hb), fun q => dn.2 (q ▸ hb), fun q => hS.1 (q ▸ hb)⟩
      refine ih mr.1 v' i' h₂ _ _ (c + 1) (pre ++ [mr.2.1]) (hdr ▸ hrest) (below_at K fun b hb o e => oth b o (nS b hb).2.2 (kk b o (nS b hb).1 (nS b hb).2.1 e)) (ok'.set hS.2.1 oth) hv' X2 ((Dp.at' fun o => kk _ o rpx rpy).at' fun o => oth _ o (Ne.symm hS.2.2.1)) ((Df.at' fun o => kk _ o rfx rfy).at' fun o => oth _ o (Ne.symm hS.2.2.2)) hi' hnew' (strs_push _ _ hacc)
        (by simp only [List.length_append, List.length_cons, List.length_nil] at hlen ⊢; omega) (fun h₃ k₃ hsl kk3 => ?_)
      rw [List.append_assoc] at hsl
      exact H h₃ k₃ hsl fun b o n1 n2 n3 e => kk3 b o n1 n2 n3 (oth b o n3 (kk b o n1 n2 e))
end
/-- the part of the heap that the top has laid -/
def low (h : Heap) : Heap := ⟨h.objs.extract 0 838, h.life⟩
theorem low_get (h : Heap) (b : Nat) : (low h).get? b = if b < 838 then h.get? b else none := by
  unfold Heap.get? low
  show (match (h.objs.extract 0 838)[b]? with | some ⟨_, _, .freed, _⟩ => none | o => o) = _
  rw [Array.getElem?_extract, Nat.zero_add]
  by_cases hb : b < 838
  · rw [if_pos hb]
    by_cases hs : b < h.objs.size
    · have q : b < min 838 h.objs.size - 0 := by rw [Nat.sub_zero]; exact Nat.lt_min.mpr ⟨hb, hs⟩
      rw [if_pos q]; rfl
    · have q : ¬ b < min 838 h.objs.size - 0 := by rw [Nat.sub_zero]; exact fun z => hs (Nat.lt_min.mp z).2
      have : h.objs[b]? = none := Array.getElem?_eq_none (Nat.not_lt.mp hs)
      rw [if_neg q, this]
  · have q : ¬ b < min 838 h.objs.size - 0 := by rw [Nat.sub_zero]; exact fun z => hb (Nat.lt_min.mp z).1
    rw [if_neg q, if_neg hb]
theorem low_of {h : Heap} {b : Addr} {o : Obj} (e : (low h).get? b = some o) : h.get? b = some o := by
  rw [low_get] at e
  split at e
  · exact e
  · cases e
section
variable {w : World} {A : Around} {E : Value → Shared → Prop} {h : Heap} {g : Array GenState} {d : Drawn} {k : Nat} {os : OsState} {x dx y dy rp rf S : Addr} {W line : Str} {outer : List Env}
theorem low_K (ok : Ok w h) : (KK pw w.params).In (low h) := by
  intro a o e
  rw [low_get, if_pos (lookup_all (KK pw w.params) a o (fun p hp => List.all_eq_true.mp (KK_low w.params) p hp) e)]
  exact ok.K a o e
theorem low_Fr {C : Addr} {names : List Str} {mA : Str → Option Value} (I : IN h x dx C names mA) : Fr (low h) dx h mA :=
  ⟨I.ns.ns, fun b o e => low_of e, Nat.le_trans (by show (h.objs.extract 0 838).size ≤ 838; rw [Array.size_extract]; omega) I.hi⟩
theorem pyIter_lex {mA : Str → Option Value} {Q : Value → Shared → Prop} (hd : A.depth < recursionLimit) (ok : Ok w h) (I : IN h x dx 752 lexN mA)
    (H : ∀ h' k', (∀ b o, h.get? b = some o → h'.get? b = some o) → Q (.ref x) ⟨h', g, d, k', os⟩) : wpAny (MM w) A (pyIter (.ref x)) Q E ⟨h, g, d, k, os⟩ := by
  obtain ⟨ox, od, I', _⟩ := I.inst
  refine owit_iter (s := ⟨h, g, d, k, os⟩) (K := KK pw w.params) (f := 742) (low_Fr I) (low_K ok) I' (by kernel_rfl!) (by kernel_rfl!) ?_
  refine callP (nm := "__iter__") (q := "shlex.__iter__") (dd := oSub (oSt pw 25) 9) (dflt := .none) (pm := .str "cpy313.shlex" 1115) (c := 741) (binds := [("self", .ref x)]) ok (a742 ok) (c741 ok) (by omega) (fun _ => by kernel_rfl!) (by kernel_rfl!) (fun h₁ k₁ F => ?_) (by kernel_rfl!)
  have I1 := I.keep F.keep
  refine wpAny_execs_cons ?_
  repeat walk_at "gg"
  obtain ⟨ox1, od1, I1', _⟩ := I1.inst
  exact owit_it (s := ⟨h₁, g, d, _, os⟩) (g := .ref 749) (low_Fr I1) (low_K (ok.fr F)) I1' (by kernel_rfl!) (H h₁ _ F.keep)
theorem list_spec {i : Nat} {v : Value} {st : St} {ts : List Str} {Q : Value → Shared → Prop} (hd : A.depth + 12 < recursionLimit) (hh : A.handled = none) (K : Below A ({} : Heap) outer h) (ok : Ok w h) (hv : StV st v) (X : LX h x dx y dy rp rf W line i v "") (Dp : DQ h rp) (Df : DQ h rf) (hx : line.length ≤ 9999) (hi : i ≤ line.length) (hW : WOk W)
    (hR : Reads st (line.cps.toList.drop i) ts) (dn : dx ∉ fSet outer ∧ dy ∉ fSet outer) (hlen : ts.length ≤ 100)
    (H : ∀ h' k' r, SL h' r ts → (∀ b o, b ≠ dx → b ≠ dy → h.get? b = some o → (b ∉ fSet outer → h'.get? b = some o) ∧ ∃ sl, h'.get? b = some { o with slots := sl }) → Q (.ref r) ⟨h', g, d, k', os⟩) :
    wpAny (MM w) A (call (.type "list") [.ref x]) Q E ⟨h, g, d, k, os⟩ := by
  refine callType_codes (Q₁ := fun obj s₁ => obj = .ref h.objs.size ∧ s₁ = ⟨h.push { cls := .type "list", data := .seq #[] }, g, d, k, os⟩) F.called_list (F.typeCall_list_1 _) F.entry_list_init (code_list_new _ ⟨rfl, rfl⟩) fun obj s₁ h₁ => ?_
  obtain ⟨rfl, rfl⟩ := h₁
  have hS : (h.push { cls := .type "list", data := .seq #[] }).get? h.objs.size = some { cls := .type "list", data := .seq #[] } := Heap.get?_push_size _ rfl
  have kp : ∀ b o, h.get? b = some o → (h.push { cls := .type "list", data := .seq #[] }).get? b = some o := fun _ _ e => Heap.get?_push_of_some _ e
  refine ⟨⟨_, hS, rfl⟩, F.args_list_init_2 _ _, ?_⟩
  have hSf : h.objs.size ∉ fSet outer := fun hm => by obtain ⟨_, o, ho, _⟩ := K.frames.mem hm; rw [fresh_none] at ho; cases ho
  have hL : 838 ≤ h.objs.size := Heap.lt_size (a837 ok)
  have ne : ∀ b o, h.get? b = some o → b ≠ h.objs.size := fun b o e q => by rw [q, fresh_none] at e; cases e
  have hrp : h.objs.size ≠ rp := by obtain ⟨o, n, e, _⟩ := Dp; exact (ne _ _ e).symm
  have hrf : h.objs.size ≠ rf := by obtain ⟨o, n, e, _⟩ := Df; exact (ne _ _ e).symm
  have lt := X.lts
  generalize h.push { cls := .type "list", data := .seq #[] } = h₁ at hS kp
  show wpAny _ A.in1.in1 (do let old ← Builtin.List.listItems (.ref h.objs.size); Builtin.List.listUpdate (.ref h.objs.size) (fun _ => #[]); letGo old.toList.reverse; Builtin.List.listExtendWith (.ref h.objs.size) (.ref x) .none) _ _ _
  refine wpAny_bind ?_
  unfold Builtin.List.listItems
  refine wpAny_bind (wpAny_seqItems hS rfl (wpAny_pure ?_))
  show wpAny _ A.in1.in1 (updateSeq h.objs.size (fun _ => #[]) >>= fun _ => letGo (#[] : Array Value).toList.reverse >>= fun _ => Builtin.List.listExtendWith (.ref h.objs.size) (.ref x) .none) _ _ _
  refine wpAny_bind (wpAny_updateSeq (s := ⟨h₁, g, d, k, os⟩) hS rfl ?_)
  have hS2 := Heap.get?_update_self (Obj.mapSeq (fun _ => (#[] : Array Value))) hS rfl
  have kp2 : ∀ b o, h.get? b = some o → (h₁.update h.objs.size (Obj.mapSeq (fun _ => (#[] : Array Value)))).get? b = some o := fun b o e => (Heap.get?_update_other _ _ (Ne.symm (ne b o e))).trans (kp b o e)
  refine wpAny_bind (wpAny_letGo ?_)
  show wpAny _ _ _ _ _ ⟨h₁.update h.objs.size (Obj.mapSeq (fun _ => (#[] : Array Value))), g, d, k, os⟩
  generalize h₁.update h.objs.size (Obj.mapSeq (fun _ => (#[] : Array Value))) = h₂ at hS2 kp2
  obtain ⟨mA, tt, I, _⟩ := id (X.keep kp2)
  obtain ⟨ox, od, I', _⟩ := I.inst
  have hSI : h.objs.size ≠ x := Nat.ne_of_gt lt.1
  unfold Builtin.List.listExtendWith
  refine wpAny_bind (I'.type.here (s := ⟨h₂, g, d, k, os⟩) ?_)
  have h1 : Builtin.List.listSameRef (.ref h.objs.size) (.ref x) = false := by simp [Builtin.List.listSameRef, hSI]
  have h2 : (Value.ref 752 == Value.type "list") = false := by decide
  have h3 : (Value.ref 752 == Value.type "tuple") = false := by decide
  simp only [h1, h2, h3, Bool.or_false, Bool.false_eq_true, if_false]
  refine wpAny_bind (pyIter_lex (by show A.depth < _; omega) (ok.keeps kp2) I (fun h₃ k₃ kp3 => ?_))
  have X3 := (X.keep kp2).keep kp3
  have ok3 := (ok.keeps kp2).keeps kp3
  have hS3 := kp3 _ _ hS2
  obtain ⟨mA, tt, I3, _⟩ := id X3
  obtain ⟨ox, od, I3', _⟩ := I3.inst
  refine wpAny_bind (wpAny_holding ?_)
  unfold Builtin.List.listLengthHint
  refine wpAny_bind (wpAny_bind (I3'.type.here (s := ⟨h₃, g, d, k₃, os⟩) ((looks_findIn ok3.K (show findIn (KK pw w.params) (.ref 752) "__len__" = some none by kernel_rfl!)).here (s := ⟨h₃, g, d, k₃, os⟩) ?_)))
  show wpAny _ _ (specialOf (Value.ref x) (Str.ofString "__length_hint__") >>= _) _ _ _
  refine wpAny_bind (wpAny_bind (I3'.type.here (s := ⟨h₃, g, d, k₃, os⟩) ((looks_findIn ok3.K (show findIn (KK pw w.params) (.ref 752) "__length_hint__" = some none by kernel_rfl!)).here (s := ⟨h₃, g, d, k₃, os⟩) ?_)))
  refine wpAny_pure ?_
  show wpAny _ _ (rule "list.extend.makes-room" >>= fun _ => Builtin.List.listTouch (.ref h.objs.size) >>= fun _ =>
    again (.builtin "list.extend.loop" ⟨[.ref h.objs.size, .ref x, .none], []⟩)) _ _ _
  refine wpAny_bind (wpAny_rule ?_)
  refine wpAny_bind ?_
  show wpAny _ _ (updateSeq h.objs.size (·.push .none) >>= fun _ => updateSeq h.objs.size (·.pop)) _ _ _
  refine wpAny_bind (wpAny_updateSeq (s := ⟨h₃, g, d, k₃, os⟩) hS3 rfl ?_)
  have hS4 := Heap.get?_update_self (Obj.mapSeq (·.push Value.none)) hS3 rfl
  refine wpAny_updateSeq (s := ⟨h₃.update h.objs.size (Obj.mapSeq (·.push Value.none)), g, d, k₃, os⟩) (hz := by seq_fits) hS4 rfl ?_
  have hS5 := Heap.get?_update_self (Obj.mapSeq (·.pop)) hS4 rfl
  have oth : ∀ b o, b ≠ h.objs.size → h₃.get? b = some o → ((h₃.update h.objs.size (Obj.mapSeq (·.push Value.none))).update h.objs.size (Obj.mapSeq (·.pop))).get? b = some o :=
    fun b o hb e => (Heap.get?_update_other _ _ (Ne.symm hb)).trans ((Heap.get?_update_other _ _ (Ne.symm hb)).trans e)
  show wpAny _ _ _ _ _ ⟨(h₃.update h.objs.size (Obj.mapSeq (·.push Value.none))).update h.objs.size (Obj.mapSeq (·.pop)), g, d, k₃, os⟩
  have kp4 : ∀ b o, h.get? b = some o → ((h₃.update h.objs.size (Obj.mapSeq (·.push Value.none))).update h.objs.size (Obj.mapSeq (·.pop))).get? b = some o := fun b o e => oth b o (ne b o e) (kp3 _ _ (kp2 _ _ e))
  have hS6 : ∃ c, ((h₃.update h.objs.size (Obj.mapSeq (·.push Value.none))).update h.objs.size (Obj.mapSeq (·.pop))).get? h.objs.size = some { cls := .type "list", data := .seq ([] : List Value).toArray c } := ⟨_, hS5⟩
  generalize (h₃.update h.objs.size (Obj.mapSeq (·.push Value.none))).update h.objs.size (Obj.mapSeq (·.pop)) = h₅ at hS6 kp4
  obtain ⟨c, hS6⟩ := hS6
  refine wpAny_pure ⟨plainId_quiet F.plain_extend_loop _, loop_spec (A := A.in1) (outer := outer) hd hh hx hW dn ⟨hSf, hL, hrp, hrf⟩ ts st v i h₅ k₃ [] c [] hR (below_at K.in1 fun b hb o e => kp4 b o e) (ok.keeps kp4) hv (X.keep kp4) (Dp.at' fun o => kp4 _ o) (Df.at' fun o => kp4 _ o) hi hS6 .nil (by simpa using hlen) (fun h' k' hsl kk => ?_)⟩
  exact ⟨rfl, H h' k' _ hsl fun b o n1 n2 e => kk b o n1 n2 (ne b o e) (kp4 b o e)⟩
end
/-- a computation that looks at the top's objects and makes new ones -/
def peekH {α : Type} (K : Frag) (S : Setting) : Nat → Sem α → Option (List Obj × α)
  | _, .pure a => some ([], a)
  | n, .rule _ k => peekH K S n (k ())
  | n, .point _ k => peekH K S n (k ())
  | n, .ask k => peekH K S n (k S)
  | n, .load a _ k => (match K.lookup a with
      | some o => peekH K S n (k o)
      | none => none)
  | n, .alloc o k => (peekH K S (n + 1) (k n)).map fun x => (o :: x.1, x.2)
  | _, _ => none
def pushes : Heap → List Obj → Heap
  | h, [] => h
  | h, o :: os => pushes (h.push o) os
theorem pushes_keep : ∀ (os : List Obj) (h : Heap) (b : Addr) (o : Obj), h.get? b = some o → (pushes h os).get? b = some o
  | [], _, _, _, e => e
  | x :: os, h, b, o, e => pushes_keep os (h.push x) b o (Heap.get?_push_of_some _ e)
theorem wp_of_peekH {α : Type} {K : Frag} {M : Model} {Γ : Ctx} {Q : α → Pos → Shared → Prop} {E : Value → Pos → Shared → Prop} :
    ∀ (t : Sem α) (p : Pos) (s : Shared) (n : Nat) (os : List Obj) (a : α), K.In s.heap → n = s.heap.objs.size → peekH K ⟨M.prog, M.w.params⟩ n t = some (os, a) → Q a p { s with heap := pushes s.heap os } → Sem.wp M Γ t Q E p s := by
  intro t
  induction t with
  | pure b => intro p s n os a X hn e q; cases e; exact q
  | rule _ k ih => intro p s n os a X hn e q; exact ih () p s n os a X hn e q
  | point _ k ih => intro p s n os a X hn e q; exact ih () p s n os a X hn e q
  | ask k ih => intro p s n os a X hn e q; exact ih _ p s n os a X hn e q
  | load b _ k ih =>
    intro p s n os a X hn e q
    simp only [peekH] at e
    split at e
    · rename_i o ho; exact ⟨o, X _ _ ho, ih o p s n os a X hn e q⟩
    · cases e
  | alloc o k ih =>
    intro p s n os a X hn e q
    subst hn
    simp only [peekH] at e
    obtain ⟨⟨os', a'⟩, e1, e2⟩ := Option.map_eq_some_iff.mp e
    cases e2
    exact ih _ p { s with heap := s.heap.push o } _ os' a' (X.keeps fun b x hb => Heap.get?_push_of_some _ hb) (by rw [Heap.size_push]) e1 q
  | _ => intro p s n os a X hn e q; cases e
theorem wpAny_peekH {α : Type} {K : Frag} {M : Model} {A : Around} {Q : α → Shared → Prop} {E : Value → Shared → Prop} {s : Shared} {t : Sem α} {os : List Obj} {a : α} (X : K.In s.heap)
    (e : peekH K ⟨M.prog, M.w.params⟩ s.heap.objs.size t = some (os, a)) (q : Q a { s with heap := pushes s.heap os }) : wpAny M A t Q E s :=
  fun Γ p hΓ => wp_of_peekH t p s _ os a X rfl e q
section
variable (P : Params)
theorem sNewReads : readsIn (KK pw P) 617 (.type "type") = true := by kernel_rfl
theorem sNewFind : findCls (KK pw P) (.ref 617) (.type "type") "__new__" = some (.get (.builtin "staticmethod.__get__") (.ref 114) .none (.ref 617)) := by kernel_rfl
theorem sMadeBy (S : Setting) : peek (KK pw P) S (Bind.madeBy (.ref 617)) = some none := by kernel_rfl
theorem sNewCheck (S : Setting) : peek (KK pw P) S (checkBuiltinCall "object.__new__" ⟨[.ref 617], []⟩) = some () := by kernel_rfl
theorem sNewRun (S : Setting) (n : Nat) : peekH (KK pw P) S n (Builtin.«object.__new__» ⟨[.ref 617], []⟩) = some ([emptyDict, instObj 617 n], .done (.ret (.ref (n + 1)))) := by kernel_rfl
theorem oNewFind : findCls (KK pw P) (.type "object") (.type "type") "__new__" = some (.val (.builtin "object.__new__")) := by kernel_rfl
theorem sNewBinds (S : Setting) (n : Nat) (x : Str) (t : Tok) : peekH (KK pw P) S n (bindArgs (oFd "__new__" "IOBase.__new__" (oSub (oSt pw 11) 1) 3 .none (.str "io" 399) (.ref 109)) ⟨[.ref 617, .str x t], []⟩) = (some ([{ cls := .type "tuple", data := .seq #[.str x t] }, emptyDict], [("cls", .ref 617), ("args", .ref n), ("kwargs", .ref (n + 1))]) : Option (List Obj × List (Str × Value))) := by kernel_rfl
theorem sNewRec : recIn (KK pw P) 114 "staticmethod" = some [.ref 110] := by kernel_rfl
theorem sCall : specialIn (KK pw P) (.ref 617) "__call__" = some (some (.builtin "type.__call__")) := by kernel_rfl
theorem sType : instIn (KK pw P) (.ref 617) (.type "type") = some true := by kernel_rfl
end
section
variable {w : World} {A : Around} {E : Value → Shared → Prop} {h : Heap} {g : Array GenState} {d : Drawn} {k : Nat} {os : OsState} {env : Env} {pos : Pos}
/-- a call of a def of the text whose binding makes objects -/
theorem callS {f c : Addr} {nm q : String} {dd : Stmt} {dflt pm : Value} {args : List Value} {kw : List (Str × Value)} {binds : List (Str × Value)} {obs : List Obj} {Q : Value → Shared → Prop}
    (x : Ok w h) (hf : h.get? f = some { cls := .type "function", data := .func (oFd nm q dd 3 dflt pm (.ref c)) }) (hc : h.CodeRec (.ref c) q) (hd : A.depth < recursionLimit)
    (hbind : ∀ S, peekH (KK pw w.params) S h.objs.size (bindArgs (oFd nm q dd 3 dflt pm (.ref c)) ⟨args, kw⟩) = some (obs, binds)) (hloc : (binds.all fun x => decide ((oScope dd).names.lookup x.1 = some .local)) = true)
    (H : ∀ h₁ k₁, Fr (pushes h obs) (pushes h obs).objs.size h₁ (fun x => binds.reverse.lookup x) →
      wpAny (MM w) (A.deeper (envOf q (oScope dd) (pushes h obs).objs.size f (.ref c))) (execs (oBody dd) (envOf q (oScope dd) (pushes h obs).objs.size f (.ref c)))
        (fun fl s' => Q (flowVal fl) s') (fun _ _ => False) ⟨h₁, g, d, k₁, os⟩)
    (hsc : ((oScope dd).isCoroutine || (oScope dd).isGenerator || (oScope dd).kind != .function || (oScope dd).names.any (fun x => x.2 == .cell)) = false) :
    wpAny (MM w) A (call (.ref f) args kw) Q E ⟨h, g, d, k, os⟩ := by
  simp only [Bool.or_eq_false_iff] at hsc
  obtain ⟨⟨⟨c1, c2⟩, c3⟩, c4⟩ := hsc
  have hk : (oScope dd).kind = .function := by
    revert c3; cases (oScope dd).kind <;> simp
  have c5 : ∀ y ∈ (oScope dd).names, y.2 ≠ .cell := by
    intro y hy e
    have := List.any_eq_false.mp c4 y hy
    rw [e] at this
    exact this rfl
  have lim' : (pushes h obs).NoLimit := x.lim.keeps (pushes_keep obs h)
  refine wpAny_call (codeAny_call_function (s := ⟨h, g, d, k, os⟩) (fd := oFd nm q dd 3 dflt pm (.ref c)) (body := oBody dd) hd hf rfl c1 c2 rfl hc ?_)
  refine wpAny_peekH (s := ⟨h, g, d, k, os⟩) x.K (hbind _) ?_
  refine wpAny_newFunctionEnv (s := ⟨pushes h obs, g, d, k, os⟩) c5 (locs hloc) (fun h₀ hns₀ hsb₀ => ⟨lim'.fresh _ hsb₀, codeAny_func ?_⟩) hk
  have kp : ∀ b o, (pushes h obs).get? b = some o → h₀.get? b = some o := fun b o e => hsb₀.extBut b o (Nat.ne_of_lt (Heap.lt_size e)) (Heap.get?_push_of_some _ e)
  exact wpAny_mono (H h₀ _ ⟨hns₀, kp, Nat.le_refl _⟩) (fun fl s' q => by cases fl <;> exact q) fun _ _ q => q.elim
theorem getAttr_onew {Q : Value → Shared → Prop} (ok : Ok w h) (H : ∀ k', Q (.builtin "object.__new__") ⟨h, g, d, k', os⟩) : wpAny (MM w) A (getAttr (.type "object") "__new__") Q E ⟨h, g, d, k, os⟩ := by
  refine cls_open (K := KK pw w.params) (s := ⟨h, g, d, k, os⟩) (mc := .type "type") (hook := none) ok.K (Looks.of_peek ok.K (by kernel_rfl!)) (Looks.of_pure rfl) (by kernel_rfl!) (looks_hook ok.K (by kernel_rfl!)) (by kernel_rfl!) (oNewFind _) ?_
  refine wpAny_pure ?_
  show wpAny _ _ (handedOut _) _ _ _
  exact handed_on rfl (H _)
theorem rObjNew {o : Expr} {apos : Pos} {args : List Expr} {Q : Value → Shared → Prop} {s : Shared}
    (hbase : attributeBase o "__new__" env (eval o env) = eval o env)
    (hfew : methodCallForm (args.length + ([] : List Keyword).length) (backTo pos (starEach args env)) (backToKw pos (keywordEach [] env)) = true)
    (hline : (apos.endLine == pos.line) = true)
    (H : wpAny (MM w) A (eval o env) (fun ov s₁ => ∃ h g d k os, s₁ = ⟨h, g, d, k, os⟩ ∧ ov = .type "object" ∧ Ok w h ∧ ∀ k', wpAny (MM w) A (callWith pos (.builtin "object.__new__") [] (backTo pos (starEach args env)) []) Q E ⟨h, g, d, k', os⟩) E s) :
    wpAny (MM w) A (eval (.Call (.Attribute o "__new__" apos) args [] pos) env) Q E s := by
  rw [arm_eval_Call, hbase]
  refine wpAny_bind (wpAny_mono H (fun ov s₁ h₁ => ?_) fun _ _ e => e)
  obtain ⟨h, g, d, k, os, rfl, rfl, ok, hc⟩ := h₁
  refine wpAny_bind (wpAny_standAt ?_)
  have hpos : methodCallPos true o env apos pos = pure pos := by unfold methodCallPos; simp [hline]
  unfold methodCall
  rw [hfew]
  refine wpAny_bind (wpAny_holding ?_)
  show wpAny _ _ (getMethod (.type "object") "__new__" _) _ _ _
  unfold getMethod
  refine wpAny_bind (wpAny_bind (wpAny_pure ((looks_findIn (K := KK pw w.params) ok.K (show findIn (KK pw w.params) (.type "type") "__getattribute__" = some (some (.builtin "type.__getattribute__")) by kernel_rfl!)).here ?_)))
  dsimp only
  rw [if_pos canon_tga]
  refine wpAny_bind (getAttr_onew ok (fun k' => wpAny_pure ?_))
  exact wpAny_bind (wpAny_of_eq hpos (hc k'))
theorem onew_call {Q : Value → Shared → Prop} (ok : Ok w h) (H : Q (.ref (h.objs.size + 1)) ⟨pushes h [emptyDict, instObj 617 h.objs.size], g, d, k, os⟩) :
    wpAny (MM w) A (call (.builtin "object.__new__") [.ref 617]) Q E ⟨h, g, d, k, os⟩ := by
  refine wpAny_call (codeAny_call_builtin_code (Code.quiet_builtin _ PySem.F.objNew.quiet) ?_)
  refine (Looks.of_peek ok.K (sNewCheck _ _)).here (s := ⟨h, g, d, k, os⟩) ?_
  refine codeAny_builtin PySem.F.objNew.entry ?_
  exact wpAny_peekH (K := KK pw w.params) (s := ⟨h, g, d, k, os⟩) ok.K (sNewRun _ _ _) H
theorem iobase_new {x : Str} {t : Tok} {Q : Value → Shared → Prop} (hd : A.depth < recursionLimit) (ok : Ok w h)
    (H : ∀ h' k' y dy, (∀ b o, h.get? b = some o → h'.get? b = some o) → h'.get? y = some (instObj 617 dy) → h'.get? dy = some emptyDict → h.objs.size ≤ dy → dy < y → Q (.ref y) ⟨h', g, d, k', os⟩) :
    wpAny (MM w) A (call (.ref 110) [.ref 617, .str x t]) Q E ⟨h, g, d, k, os⟩ := by
  refine callS (nm := "__new__") (q := "IOBase.__new__") (dd := oSub (oSt pw 11) 1) (dflt := .none) (pm := .str "io" 399) (c := 109) ok (a110 ok) (c109 ok) hd (fun S => sNewBinds _ S _ x t) (by kernel_rfl!) (fun h₁ k₁ F => ?_) (by kernel_rfl!)
  have kp := fun b o e => F.keep b o (pushes_keep _ _ b o e)
  have ok1 : Ok w h₁ := ok.keeps kp
  refine wpAny_execs_cons ?_
  repeat walk_at "gg"
  refine wpAny_isNot_ref_other (by decide) (a617 ok1) (a370 ok1) (fun q => absurd (Value.type.inj q) (by decide)) ?_
  repeat walk_at "gg"
  refine wpAny_isNot_ref_self ?_
  repeat walk_at "gg"
  refine rObjNew (by with_unfolding_all rfl) (by with_unfolding_all rfl) (by with_unfolding_all rfl) ?_
  refine ldB ok1 (by kernel_rfl!) (by kernel_rfl!) (by kernel_rfl!) (by kernel_rfl!) (by kernel_rfl!) Boot.«object» (by decide +kernel) ?_ (by decide +kernel)
  refine ⟨_, _, _, _, _, rfl, rfl, ok1, fun k' => ?_⟩
  repeat walk_at "gg"
  refine onew_call ok1 ?_
  have s1 : h.objs.size ≤ h₁.objs.size := by
    have := Heap.lt_size (kp _ _ (a837 ok))
    have h0 := F.above
    have h2 := F.ns.lt
    have : h.objs.size ≤ (pushes h [{ cls := .type "tuple", data := .seq #[.str x t] }, emptyDict]).objs.size := by
      show _ ≤ ((h.push _).push _).objs.size
      rw [Heap.size_push, Heap.size_push]; omega
    exact Nat.le_trans this (Nat.le_of_lt h2)
  refine H _ _ _ h₁.objs.size (fun b o e => pushes_keep _ _ b o (kp b o e)) ?_ ?_ s1 (Nat.lt_succ_self _)
  · show ((h₁.push _).push _).get? _ = _
    have : (h₁.push emptyDict).objs.size = h₁.objs.size + 1 := Heap.size_push ..
    rw [← this]
    exact Heap.get?_push_size _ rfl
  · exact Heap.get?_push_of_some _ (Heap.get?_push_size _ rfl)
end
theorem IN.new {h : Heap} {x dx C : Addr} {names : List Str} (hx : h.get? x = some (instObj C dx)) (hd : h.get? dx = some emptyDict) (ne : dx < x) (hi : 838 ≤ dx) : IN h x dx C names (fun _ => none) :=
  ⟨⟨_, hx, rfl, rfl, rfl⟩, Heap.Ns1.of_empty ⟨_, _, _, hd, rfl, fun e he => absurd he (by simp), fun n => rfl⟩, Nat.ne_of_lt ne, fun y hy => by simp at hy, hi⟩
section
variable {w : World} {A : Around} {E : Value → Shared → Prop} {h : Heap} {g : Array GenState} {d : Drawn} {k : Nat} {os : OsState} {env : Env} {pos : Pos} {y dy : Addr}
theorem translated_spec {x : Str} {t tn : Tok} {mB : Str → Option Value} (hd : A.depth < recursionLimit) (ok : Ok w h) (I : IN h y dy 617 sioN mB) (e1 : mB "_StringIO__newline" = some (.str "\n" tn)) :
    wpAny (MM w) A (call (.ref 394) [.ref y, .str x t]) (fun v s' => v = .str x t ∧ Keeps ⟨h, g, d, k, os⟩ s') E ⟨h, g, d, k, os⟩ := by
  refine callP (nm := "__translated") (q := "StringIO.__translated") (dd := oSub (oSt pw 15) 2) (dflt := .none) (pm := .str "io" 399) (c := 393) (binds := [("self", .ref y), ("s", .str x t)]) ok (a394 ok) (c393 ok) hd (fun _ => by kernel_rfl!) (by kernel_rfl!) (fun h₁ k₁ F => ?_) (by kernel_rfl!)
  have ok1 := ok.fr F
  have I1 := I.keep F.keep
  have p := pc617 w.params
  refine wpAny_execs_cons ?_
  repeat walk_at "mt"
  refine rSt F (fun h₂ k₂ F2 kk2 => ?_) (by kernel_rfl!) (by kernel_rfl!)
  clear F ok1 I1
  repeat walk_at "mt"
  exact ⟨rfl, kps F2.keep⟩
theorem sinit_spec {x : Str} {t : Tok} (hd : A.depth + 1 < recursionLimit) (ok : Ok w h) (I : IN h y dy 617 sioN (fun _ => none)) :
    wpAny (MM w) A (call (.ref 387) [.ref y, .str x t]) (fun v s' => v = .none ∧ ∃ h' k', s' = ⟨h', g, d, k', os⟩ ∧ SIO h' y dy x 0 ∧ (∀ b o, b ≠ dy → h.get? b = some o → h'.get? b = some o)) E ⟨h, g, d, k, os⟩ := by
  refine callP (nm := "__init__") (q := "StringIO.__init__") (dd := oSub (oSt pw 15) 1) (dflt := .ref 380) (pm := .str "io" 399) (c := 386) (binds := [("self", .ref y), ("initial_value", .str x t), ("newline", .str "\n" 784)]) ok (a387 ok) (c386 ok) (by omega) (fun _ => by kernel_rfl!) (by kernel_rfl!) (fun h₁ k₁ F => ?_) (by kernel_rfl!)
  have p := pc617 w.params
  have ok1 := ok.fr F
  have I1 := I.keep F.keep
  have hdy : dy < h.objs.size := I.ns.ns.lt
  have hLd : h.objs.size ≠ dy := Nat.ne_of_gt hdy
  have F1 : Fr ({} : Heap) h.objs.size h₁ _ := ⟨F.ns, fun b o q => by simp [Heap.get?] at q, Nat.zero_le _⟩
  have kp1 : ∀ b o, b ≠ dy → h.get? b = some o → h₁.get? b = some o := fun b o _ e => F.keep b o e
  clear F
  refine wpAny_execs_cons ?_
  repeat walk_at "mt"
  refine plainObj_wpAny_Assign_Attribute ?_ (by kernel_rfl!)
  repeat walk_at "mt"
  refine I1.set ok1 p (by kernel_rfl!) (by decide +kernel) (by decide) (fun h2 k2 I2 kk2 => ?_)
  have ok2 := ok1.set I1.hi kk2
  have F2 : Fr ({} : Heap) h.objs.size h2 _ := ⟨F1.ns.at' fun o e => kk2 _ o hLd e, fun b o q => by simp [Heap.get?] at q, Nat.zero_le _⟩
  have kp2 : ∀ b o, b ≠ dy → h.get? b = some o → h2.get? b = some o := fun b o n e => kk2 b o n (kp1 b o n e)
  clear F1 ok1 I1 kp1
  repeat walk_at "mt"
  refine plainObj_wpAny_Assign_Attribute ?_ (by kernel_rfl!)
  repeat walk_at "mt"
  refine I2.set ok2 p (by kernel_rfl!) (by decide +kernel) (by decide) (fun h3 k3 I3 kk3 => ?_)
  have ok3 := ok2.set I2.hi kk3
  have F3 : Fr ({} : Heap) h.objs.size h3 _ := ⟨F2.ns.at' fun o e => kk3 _ o hLd e, fun b o q => by simp [Heap.get?] at q, Nat.zero_le _⟩
  have kp3 : ∀ b o, b ≠ dy → h.get? b = some o → h3.get? b = some o := fun b o n e => kk3 b o n (kp2 b o n e)
  clear F2 ok2 I2 kp2
  repeat walk_at "mt"
  refine plainObj_wpAny_Assign_Attribute ?_ (by kernel_rfl!)
  repeat walk_at "mt"
  refine I3.set ok3 p (by kernel_rfl!) (by decide +kernel) (by decide) (fun h4 k4 I4 kk4 => ?_)
  have ok4 := ok3.set I3.hi kk4
  have F4 : Fr ({} : Heap) h.objs.size h4 _ := ⟨F3.ns.at' fun o e => kk4 _ o hLd e, fun b o q => by simp [Heap.get?] at q, Nat.zero_le _⟩
  have kp4 : ∀ b o, b ≠ dy → h.get? b = some o → h4.get? b = some o := fun b o n e => kk4 b o n (kp3 b o n e)
  clear F3 ok3 I3 kp3
  repeat walk_at "mt"
  refine plainObj_wpAny_Assign_Attribute ?_ (by kernel_rfl!)
  refine rMeth (f := 394) (by with_unfolding_all rfl) (by with_unfolding_all rfl) (by with_unfolding_all rfl) ?_
  repeat walk_at "mt"
  refine ⟨y, dy, 617, sioN, _, rfl, ok4, I4, p, by kernel_rfl!, by kernel_rfl!, by walk_at "lk", ?_⟩
  refine cwM1 (ob394 pw w.params) (by with_unfolding_all rfl) ?_
  repeat walk_at "mt"
  refine ⟨⟨a394 ok4, rfl⟩, ?_⟩
  refine wpAny_mono (translated_spec (by show A.depth + 1 < _; omega) ok4 I4 (by walk_at "lk")) (fun v s' hv => ?_) (fun _ _ e => e)
  obtain ⟨rfl, h5, k5, rfl, kk5⟩ := hv
  have ok5 := ok4.keeps kk5
  have I5 := I4.keep kk5
  have F5 : Fr ({} : Heap) h.objs.size h5 _ := ⟨F4.ns.keeps kk5, fun b o q => by simp [Heap.get?] at q, Nat.zero_le _⟩
  have kp5 : ∀ b o, b ≠ dy → h.get? b = some o → h5.get? b = some o := fun b o n e => kk5 b o (kp4 b o n e)
  clear F4 ok4 I4 kp4
  repeat walk_at "mt"
  refine I5.set ok5 p (by kernel_rfl!) (by decide +kernel) (by decide) (fun h6 k6 I6 kk6 => ?_)
  have ok6 := ok5.set I5.hi kk6
  have F6 : Fr ({} : Heap) h.objs.size h6 _ := ⟨F5.ns.at' fun o e => kk6 _ o hLd e, fun b o q => by simp [Heap.get?] at q, Nat.zero_le _⟩
  have kp6 : ∀ b o, b ≠ dy → h.get? b = some o → h6.get? b = some o := fun b o n e => kk6 b o n (kp5 b o n e)
  clear F5 ok5 I5 kp5
  repeat walk_at "mt"
  exact ⟨rfl, h6, _, rfl, ⟨_, _, _, I6, by walk_at "lk", by walk_at "lk", by walk_at "lk", by walk_at "lk"⟩, kp6⟩
end
section
variable {w : World} {A : Around} {E : Value → Shared → Prop} {h : Heap} {g : Array GenState} {d : Drawn} {k : Nat} {os : OsState} {env : Env} {pos : Pos} {y dy : Addr}
theorem sMro (P : Params) (S : Setting) : peek (KK pw P) S (mroOf (.ref 617)) = some [.ref 617, .ref 140, .ref 113, .type "object"] := by kernel_rfl
theorem makeSIO {x : Str} {t : Tok} {Q : Value → Shared → Prop} (hd : A.depth + 2 < recursionLimit) (ok : Ok w h)
    (H : ∀ h' k' y dy, (∀ b o, h.get? b = some o → h'.get? b = some o) → SIO h' y dy x 0 → h.objs.size ≤ dy → dy < y → Q (.ref y) ⟨h', g, d, k', os⟩) :
    wpAny (MM w) A (call (.ref 617) [.str x t]) Q E ⟨h, g, d, k, os⟩ := by
  refine wpAny_call (codeAny_of_tree ?_)
  show wpAny _ _ (callAny (.ref 617) _) _ _ _
  refine nd_load (a617 ok) ?_
  show wpAny _ _ (callAny.viaDunder (.ref 617) _) _ _ _
  unfold callAny.viaDunder
  refine wpAny_bind ((looks_specialIn ok.K (sCall w.params)).here (s := ⟨h, g, d, k, os⟩) ?_)
  dsimp only
  rw [tc_bind]
  refine wpAny_bind (wpAny_pure (wpAny_bind (wpAny_pure ?_)))
  refine wpAny_pure (a := Fin.again (.call (.builtin "type.__call__") ⟨.ref 617 :: [.str x t], []⟩)) (And.intro rfl ?_)
  refine codeAny_call_builtin_at (Code.quiet_builtin _ (by decide +kernel)) entry_typeCall (check_slot tc_kind tc_split (looks_instIn ok.K (sType w.params)) (tc_args _ _ _) ?_)
  unfold Builtin.«type.__call__»
  dsimp only
  refine PySem.W.KFB.if_not (by decide) ?_
  refine wpAny_bind ((Looks.of_peek ok.K (sMro w.params _)).here (s := ⟨h, g, d, k, os⟩) ?_)
  refine PySem.W.KFB.if_not rfl ?_
  refine wpAny_bind ((Looks.of_peek ok.K (sMadeBy w.params _)).here (s := ⟨h, g, d, k, os⟩) ?_)
  dsimp only
  refine wpAny_bind ?_
  refine cls_bind (s := ⟨h, g, d, k, os⟩) ok.K (sNewReads w.params) (sNewFind w.params) ?_
  refine wpAny_call (sm_get (s := ⟨h, g, d, k + 1, os⟩) ok.K (sNewRec w.params) ?_)
  show wpAny _ _ (handedOut (.ref 110)) _ _ _
  refine handed_on rfl ?_
  refine wpAny_bind (wpAny_holding (iobase_new (by show A.depth + 1 < _; omega) ok (fun h₁ k₁ y dy kk1 hy hdy hn hlt => ?_)))
  have hL : 838 ≤ h.objs.size := Heap.lt_size (a837 ok)
  have ok1 := ok.keeps kk1
  have I1 : IN h₁ y dy 617 sioN (fun _ => none) := IN.new hy hdy hlt (Nat.le_trans hL hn)
  obtain ⟨ox, od, I', _⟩ := I1.inst
  have hinst : Looks (MM w) h₁ (isInstance (.ref y) (.ref 617)) true := I'.type.andThen (looks_subIn ok1.K (show subIn (KK pw w.params) (.ref 617) (.ref 617) = some true by kernel_rfl!))
  refine wpAny_bind (hinst.here (s := ⟨h₁, g, d, k₁, os⟩) ?_)
  refine PySem.W.KFB.if_not rfl ?_
  refine wpAny_bind (wpAny_holding (special_fn (K := KK pw w.params) (name := "__init__") (f := 387) (args := [.str x t]) (s := ⟨h₁, g, d, k₁, os⟩) ok1.K I' (by kernel_rfl!) (by kernel_rfl!) (wpAny_mono (sinit_spec (by show A.depth + 1 + 1 < _; omega) ok1 I1) (fun v s' hv => ?_) (fun _ _ e => e))))
  obtain ⟨rfl, h₂, k₂, rfl, S2, kk2⟩ := hv
  dsimp only
  refine PySem.W.KFB.if_not rfl ?_
  refine wpAny_pure ?_
  refine H h₂ k₂ y dy (fun b o e => kk2 b o (fun q => ?_) (kk1 b o e)) S2 hn hlt
  have := Heap.lt_size e
  rw [q] at this
  exact absurd this (Nat.not_lt.mpr hn)
end
theorem mro_dq : mroOf (.type "collections.deque") = pure [.type "collections.deque", .type "object"] := by rw [mroOf_type]; kernel_rfl
theorem lookup_dq_new : typeLookup (.type "collections.deque") "__new__" = pure (some (.builtin "collections.deque.__new__")) := by rw [typeLookup_type, builtinLookup_eq_fast]; kernel_rfl
theorem slot_dq_init : Slot "collections.deque" "__init__" "collections.deque.__init__" :=
  Slot.of (owner := "collections.deque") (n := "__init__") (by rw [typeLookup_type, builtinLookup_eq_fast]; kernel_rfl) (by decide +kernel) (by decide +kernel) (by decide +kernel) (.inl (by decide +kernel)) (by rw [isSubtype_type]; kernel_rfl)
theorem called_dq : TypeCalled "collections.deque" "collections.deque.__new__" "collections.deque.__init__" :=
  ⟨by decide +kernel, by decide +kernel, ⟨_, _, mro_dq⟩, madeBy_type mro_dq lookup_dq_new (by decide +kernel), by decide +kernel, by rw [isSubtype_type]; kernel_rfl, slot_dq_init⟩
theorem typeCall_dq : checkTypeCall "collections.deque" ⟨[], []⟩ = pure () := by kernel_rfl
theorem newCall_dq : checkBuiltinCall "collections.deque.__new__" ⟨[.type "collections.deque"], []⟩ = pure () := by kernel_rfl
theorem entry_dq_new : entryFor table "collections.deque.__new__" = some Builtin.«collections.deque.__new__» := entryFor_of_tree (by kernel_rfl)
theorem plain_dq_new : plainId "collections.deque.__new__" = true := by decide +kernel
theorem entry_dq_init : entryFor table "collections.deque.__init__" = some Builtin.«collections.deque.__init__» := entryFor_of_tree (by kernel_rfl)
theorem args_dq_init (v : Value) : argsOk "collections.deque.__init__" ⟨[v], []⟩ := by unfold argsOk; kernel_rfl
theorem sub_dq : isSubtype (.type "collections.deque") (.type "collections.deque") = pure true := by rw [isSubtype_type]; kernel_rfl
section
variable {prog : Program} {w : World} {A : Around} {E : Value → Shared → Prop} {h : Heap} {g : Array GenState} {d : Drawn} {k : Nat} {os : OsState}
theorem deque_call {Q : Value → Shared → Prop} (H : ∀ h' r, h.get? r = none → DQ h' r → (∀ b o, h.get? b = some o → h'.get? b = some o) → Q (.ref r) ⟨h', g, d, k, os⟩) :
    wpAny (model prog w) A (call (.type "collections.deque") []) Q E ⟨h, g, d, k, os⟩ := by
  refine callType_codes (Q₁ := fun obj s₁ => obj = .ref h.objs.size ∧ s₁ = ⟨h.push { cls := .type "collections.deque", data := .fields #[.none, rawInt 0] }, g, d, k, os⟩) called_dq typeCall_dq entry_dq_init ?_ fun obj s₁ h₁ => ?_
  · refine codeAny_of_tree ?_
    show wpAny _ _ (do checkBuiltinCall "collections.deque.__new__" ⟨[.type "collections.deque"], []⟩; again (.builtin "collections.deque.__new__" ⟨[.type "collections.deque"], []⟩)) _ _ _
    refine wpAny_bind (wpAny_of_eq newCall_dq (wpAny_pure ⟨plainId_quiet plain_dq_new _, codeAny_builtin entry_dq_new ?_⟩))
    rw [Around.under_plainId plain_dq_new _]
    unfold Builtin.«collections.deque.__new__» Builtin.Deque.newArgs
    dsimp only
    refine wpAny_bind (wpAny_bind (m := isType _) (wpAny_pure ?_))
    refine PySem.W.KFB.if_not rfl ?_
    refine wpAny_bind (wpAny_of_eq sub_dq ?_)
    refine PySem.W.KFB.if_not rfl ?_
    refine wpAny_pure ?_
    unfold Builtin.Deque.new
    refine wpAny_bind ?_
    rw [if_neg (by decide)]
    refine wpAny_bind ?_
    show wpAny _ _ (pure none) _ _ _
    refine wpAny_pure ?_
    refine wpAny_newObj_type ?_
    refine wpAny_pure ?_
    exact ⟨rfl, rfl⟩
  · obtain ⟨rfl, rfl⟩ := h₁
    have hS : (h.push { cls := .type "collections.deque", data := .fields #[.none, rawInt 0] }).get? h.objs.size = some { cls := .type "collections.deque", data := .fields #[.none, rawInt 0] } := Heap.get?_push_size _ rfl
    refine ⟨⟨_, hS, rfl⟩, args_dq_init _, ?_⟩
    show wpAny _ _ (do setField (.ref h.objs.size) 0 .none; Builtin.Deque.clear (.ref h.objs.size); ret .none) _ _ _
    refine wpAny_bind (wpAny_setField hS rfl (by decide) ?_)
    have hS2 := Heap.get?_update_self (Obj.mapFields (·.setIfInBounds 0 Value.none)) hS rfl
    have oth : ∀ b o, h.get? b = some o → ((h.push { cls := .type "collections.deque", data := .fields #[.none, rawInt 0] }).update h.objs.size (Obj.mapFields (·.setIfInBounds 0 Value.none))).get? b = some o :=
      fun b o e => (Heap.get?_update_other _ _ (Nat.ne_of_gt (Heap.lt_size e))).trans (Heap.get?_push_of_some _ e)
    unfold Builtin.Deque.clear Builtin.Deque.items
    refine wpAny_bind (wpAny_bind (wpAny_bind (wpAny_fieldsOf hS2 rfl (wpAny_pure ?_))))
    rw [if_neg (by decide)]
    refine wpAny_pure (wpAny_pure ?_)
    exact ⟨rfl, H _ _ (fresh_none h) ⟨_, _, hS2, rfl, rfl⟩ oth⟩
end
def wordc : Str := (("abcdfeghijklmnopqrstuvwxyzABCDEFGHIJKLMNOPQRSTUVWXYZ0123456789_" : String) : Str) ++ (("ßàáâãäåæçèéêëìíîïðñòóôõöøùúûüýþÿÀÁÂÃÄÅÆÇÈÉÊËÌÍÎÏÐÑÒÓÔÕÖØÙÚÛÜÝÞ" : String) : Str)
/-- the reader just made -/
structure LexI (h : Heap) (x dx y dy rp rf : Addr) (mA : Str → Option Value) : Prop where
  I : IN h x dx 752 lexN mA
  instream : mA "instream" = some (.ref y)
  posix : mA "posix" = some (.bool true)
  eof : mA "eof" = some .none
  wordchars : ∃ t, mA "wordchars" = some (.str wordc t)
  wsplit : mA "whitespace_split" = some (.bool false)
  whitespace : ∃ t, mA "whitespace" = some (.str " \t\r\n" t)
  quotes : ∃ t, mA "quotes" = some (.str "'\"" t)
  escape : ∃ t, mA "escape" = some (.str "\\" t)
  equotes : ∃ t, mA "escapedquotes" = some (.str "\"" t)
  pushback : mA "pushback" = some (.ref rp)
  debug : ∃ t, mA "debug" = some (.int 0 t)
  filestack : mA "filestack" = some (.ref rf)
  source : mA "source" = some .none
  punct : ∃ t, mA "_punctuation_chars" = some (.str "" t)
  state : ∃ t, mA "state" = some (.str " " t)
  token : ∃ t, mA "token" = some (.str "" t)
  lineno : ∃ n t, mA "lineno" = some (.int n t)
section
variable {w : World} {A : Around} {E : Value → Shared → Prop} {h : Heap} {g : Array GenState} {d : Drawn} {k : Nat} {os : OsState} {env : Env} {pos : Pos} {xx dx : Addr}
theorem linit_spec {x : Str} {t : Tok} {R : Result → Shared → Prop} (hd : A.depth + 3 < recursionLimit) (ok : Ok w h) (I : IN h xx dx 752 lexN (fun _ => none)) (hxl : xx < h.objs.size)
    (H : ∀ h' k' mA y dy rp rf, LexI h' xx dx y dy rp rf mA → SIO h' y dy x 0 → DQ h' rp → DQ h' rf → h.objs.size < dy → dy < y → (∀ b o, b ≠ dx → h.get? b = some o → h'.get? b = some o) → R (.ok (.ret .none)) ⟨h', g, d, k', os⟩) :
    codeAny (MM w) A (.call (.ref 676) ⟨[.ref xx, .str x t], [("posix", .bool true)]⟩) R ⟨h, g, d, k, os⟩ := by
  refine codeP (nm := "__init__") (q := "shlex.__init__") (dd := oSub (oSt pw 25) 0) (dflt := .ref 669) (pm := .str "cpy313.shlex" 1115) (c := 675) (binds := [("self", .ref xx), ("instream", .str x t), ("infile", .none), ("posix", .bool true), ("punctuation_chars", .bool false)]) ok (a676 ok) (c675 ok) (by omega) (fun _ => by kernel_rfl!) (by kernel_rfl!) (fun h1 k1 F => ?_) (by kernel_rfl!)
  have p := pc752 w.params
  have hL : 838 ≤ h.objs.size := Heap.lt_size (a837 ok)
  have hLn : h.get? h.objs.size = none := fresh_none h
  have ne : ∀ b o, h.get? b = some o → b ≠ h.objs.size := fun b o e q => by rw [q, hLn] at e; cases e
  have hdl : dx < h.objs.size := I.ns.ns.lt
  have hLd : h.objs.size ≠ dx := Nat.ne_of_gt hdl
  have ok1 := ok.fr F
  have I1 := I.keep F.keep
  have F1 : Fr ({} : Heap) h.objs.size h1 _ := ⟨F.ns, fun b o q => by simp [Heap.get?] at q, Nat.zero_le _⟩
  have kp1 : ∀ b o, b ≠ dx → h.get? b = some o → h1.get? b = some o := fun b o _ e => F.keep b o e
  clear F
  refine wpAny_execs_cons ?_
  repeat walk_at "gg"
  refine PySem.IsiPair.str_str ?_
  repeat walk_at "gg"
  refine callWith_K (K := KK pw w.params) ok1.K (by kernel_rfl!) ?_ (by with_unfolding_all rfl) (by with_unfolding_all rfl)
  repeat walk_at "gg"
  refine ⟨ok1.K, ?_⟩
  refine makeSIO (by show A.depth + 1 + 2 < _; omega) ok1 (fun h2 k2 y dy kk2 S2 hn2 hlt2 => ?_)
  have hyd : h.objs.size < dy := Nat.lt_of_lt_of_le F1.ns.lt hn2
  have hyx : y ≠ dx := Nat.ne_of_gt (Nat.lt_trans hdl (Nat.lt_trans hyd hlt2))
  have hdyx : dy ≠ dx := Nat.ne_of_gt (Nat.lt_trans hdl hyd)
  have hyL : y ≠ h.objs.size := Nat.ne_of_gt (Nat.lt_trans hyd hlt2)
  have hdyL : dy ≠ h.objs.size := Nat.ne_of_gt hyd
  have ok2 := ok1.keeps kk2
  have I2 := I1.keep kk2
  have F2 : Fr ({} : Heap) h.objs.size h2 _ := ⟨F1.ns.keeps kk2, fun b o q => by simp [Heap.get?] at q, Nat.zero_le _⟩
  have kp2 : ∀ b o, b ≠ dx → h.get? b = some o → h2.get? b = some o := fun b o n e => kk2 b o (kp1 b o n e)
  clear F1 ok1 I1 kp1
  refine rSt F2 (fun h3 k3 F3 kk3' => ?_) (by kernel_rfl!) (by kernel_rfl!)
  have kk3 : ∀ b o, b ≠ h.objs.size → h2.get? b = some o → h3.get? b = some o := fun b o n e => kk3' b o e n
  have ok3 : Ok w h3 := ok2.set hL kk3
  have I3 := I2.off (Nat.ne_of_lt hxl) (Nat.ne_of_lt hdl) kk3
  have kp3 : ∀ b o, b ≠ dx → h.get? b = some o → h3.get? b = some o := fun b o n e => kk3 b o (ne b o e) (kp2 b o n e)
  have S3 : SIO h3 y dy x 0 := S2.off hyL hdyL kk3
  clear F2 ok2 I2 kp2 S2
  repeat walk_at "gg"
  refine I3.set ok3 p (List.all_eq_true.mp (free752 w.params) _ (by decide +kernel)) (by decide +kernel) (by decide) (fun h4 k4 I4 kk4 => ?_)
  have ok4 := ok3.set I3.hi kk4
  have F4 : Fr ({} : Heap) h.objs.size h4 _ := ⟨F3.ns.at' fun o e => kk4 _ o hLd e, fun b o q => by simp [Heap.get?] at q, Nat.zero_le _⟩
  have kp4 : ∀ b o, b ≠ dx → h.get? b = some o → h4.get? b = some o := fun b o n e => kk4 b o n (kp3 b o n e)
  have S4 : SIO h4 y dy x 0 := S3.off hyx hdyx kk4
  clear F3 ok3 I3 kp3 S3
  repeat walk_at "gg"
  refine I4.set ok4 p (List.all_eq_true.mp (free752 w.params) _ (by decide +kernel)) (by decide +kernel) (by decide) (fun h5 k5 I5 kk5 => ?_)
  have ok5 := ok4.set I4.hi kk5
  have F5 : Fr ({} : Heap) h.objs.size h5 _ := ⟨F4.ns.at' fun o e => kk5 _ o hLd e, fun b o q => by simp [Heap.get?] at q, Nat.zero_le _⟩
  have kp5 : ∀ b o, b ≠ dx → h.get? b = some o → h5.get? b = some o := fun b o n e => kk5 b o n (kp4 b o n e)
  have S5 : SIO h5 y dy x 0 := S4.off hyx hdyx kk5
  clear F4 ok4 I4 kp4 S4
  repeat walk_at "gg"
  refine I5.set ok5 p (List.all_eq_true.mp (free752 w.params) _ (by decide +kernel)) (by decide +kernel) (by decide) (fun h6 k6 I6 kk6 => ?_)
  have ok6 := ok5.set I5.hi kk6
  have F6 : Fr ({} : Heap) h.objs.size h6 _ := ⟨F5.ns.at' fun o e => kk6 _ o hLd e, fun b o q => by simp [Heap.get?] at q, Nat.zero_le _⟩
  have kp6 : ∀ b o, b ≠ dx → h.get? b = some o → h6.get? b = some o := fun b o n e => kk6 b o n (kp5 b o n e)
  have S6 : SIO h6 y dy x 0 := S5.off hyx hdyx kk6
  clear F5 ok5 I5 kp5 S5
  repeat walk_at "gg"
  refine I6.set ok6 p (List.all_eq_true.mp (free752 w.params) _ (by decide +kernel)) (by decide +kernel) (by decide) (fun h7 k7 I7 kk7 => ?_)
  have ok7 := ok6.set I6.hi kk7
  have F7 : Fr ({} : Heap) h.objs.size h7 _ := ⟨F6.ns.at' fun o e => kk7 _ o hLd e, fun b o q => by simp [Heap.get?] at q, Nat.zero_le _⟩
  have kp7 : ∀ b o, b ≠ dx → h.get? b = some o → h7.get? b = some o := fun b o n e => kk7 b o n (kp6 b o n e)
  have S7 : SIO h7 y dy x 0 := S6.off hyx hdyx kk7
  clear F6 ok6 I6 kp6 S6
  repeat walk_at "gg"
  refine I7.set ok7 p (List.all_eq_true.mp (free752 w.params) _ (by decide +kernel)) (by decide +kernel) (by decide) (fun h8 k8 I8 kk8 => ?_)
  have ok8 := ok7.set I7.hi kk8
  have F8 : Fr ({} : Heap) h.objs.size h8 _ := ⟨F7.ns.at' fun o e => kk8 _ o hLd e, fun b o q => by simp [Heap.get?] at q, Nat.zero_le _⟩
  have kp8 : ∀ b o, b ≠ dx → h.get? b = some o → h8.get? b = some o := fun b o n e => kk8 b o n (kp7 b o n e)
  have S8 : SIO h8 y dy x 0 := S7.off hyx hdyx kk8
  clear F7 ok7 I7 kp7 S7
  repeat walk_at "gg"
  refine I8.set ok8 p (List.all_eq_true.mp (free752 w.params) _ (by decide +kernel)) (by decide +kernel) (by decide) (fun h9 k9 I9 kk9 => ?_)
  have ok9 := ok8.set I8.hi kk9
  have F9 : Fr ({} : Heap) h.objs.size h9 _ := ⟨F8.ns.at' fun o e => kk9 _ o hLd e, fun b o q => by simp [Heap.get?] at q, Nat.zero_le _⟩
  have kp9 : ∀ b o, b ≠ dx → h.get? b = some o → h9.get? b = some o := fun b o n e => kk9 b o n (kp8 b o n e)
  have S9 : SIO h9 y dy x 0 := S8.off hyx hdyx kk9
  clear F8 ok8 I8 kp8 S8
  repeat walk_at "gg"
  refine wpAny_AugAssign_AttributeAny ?_
  repeat walk_at "gg"
  refine rIaddS (by rw [sizeLine_eq]; decide +kernel) (fun _ _ => ?_)
  refine I9.set ok9 p (List.all_eq_true.mp (free752 w.params) _ (by decide +kernel)) (by decide +kernel) (by decide) (fun h10 k10 I10 kk10 => ?_)
  have ok10 := ok9.set I9.hi kk10
  have F10 : Fr ({} : Heap) h.objs.size h10 _ := ⟨F9.ns.at' fun o e => kk10 _ o hLd e, fun b o q => by simp [Heap.get?] at q, Nat.zero_le _⟩
  have kp10 : ∀ b o, b ≠ dx → h.get? b = some o → h10.get? b = some o := fun b o n e => kk10 b o n (kp9 b o n e)
  have S10 : SIO h10 y dy x 0 := S9.off hyx hdyx kk10
  clear F9 ok9 I9 kp9 S9
  repeat walk_at "gg"
  refine I10.set ok10 p (List.all_eq_true.mp (free752 w.params) _ (by decide +kernel)) (by decide +kernel) (by decide) (fun h11 k11 I11 kk11 => ?_)
  have ok11 := ok10.set I10.hi kk11
  have F11 : Fr ({} : Heap) h.objs.size h11 _ := ⟨F10.ns.at' fun o e => kk11 _ o hLd e, fun b o q => by simp [Heap.get?] at q, Nat.zero_le _⟩
  have kp11 : ∀ b o, b ≠ dx → h.get? b = some o → h11.get? b = some o := fun b o n e => kk11 b o n (kp10 b o n e)
  have S11 : SIO h11 y dy x 0 := S10.off hyx hdyx kk11
  clear F10 ok10 I10 kp10 S10
  repeat walk_at "gg"
  refine I11.set ok11 p (List.all_eq_true.mp (free752 w.params) _ (by decide +kernel)) (by decide +kernel) (by decide) (fun h12 k12 I12 kk12 => ?_)
  have ok12 := ok11.set I11.hi kk12
  have F12 : Fr ({} : Heap) h.objs.size h12 _ := ⟨F11.ns.at' fun o e => kk12 _ o hLd e, fun b o q => by simp [Heap.get?] at q, Nat.zero_le _⟩
  have kp12 : ∀ b o, b ≠ dx → h.get? b = some o → h12.get? b = some o := fun b o n e => kk12 b o n (kp11 b o n e)
  have S12 : SIO h12 y dy x 0 := S11.off hyx hdyx kk12
  clear F11 ok11 I11 kp11 S11
  repeat walk_at "gg"
  refine I12.set ok12 p (List.all_eq_true.mp (free752 w.params) _ (by decide +kernel)) (by decide +kernel) (by decide) (fun h13 k13 I13 kk13 => ?_)
  have ok13 := ok12.set I12.hi kk13
  have F13 : Fr ({} : Heap) h.objs.size h13 _ := ⟨F12.ns.at' fun o e => kk13 _ o hLd e, fun b o q => by simp [Heap.get?] at q, Nat.zero_le _⟩
  have kp13 : ∀ b o, b ≠ dx → h.get? b = some o → h13.get? b = some o := fun b o n e => kk13 b o n (kp12 b o n e)
  have S13 : SIO h13 y dy x 0 := S12.off hyx hdyx kk13
  clear F12 ok12 I12 kp12 S12
  repeat walk_at "gg"
  refine I13.set ok13 p (List.all_eq_true.mp (free752 w.params) _ (by decide +kernel)) (by decide +kernel) (by decide) (fun h14 k14 I14 kk14 => ?_)
  have ok14 := ok13.set I13.hi kk14
  have F14 : Fr ({} : Heap) h.objs.size h14 _ := ⟨F13.ns.at' fun o e => kk14 _ o hLd e, fun b o q => by simp [Heap.get?] at q, Nat.zero_le _⟩
  have kp14 : ∀ b o, b ≠ dx → h.get? b = some o → h14.get? b = some o := fun b o n e => kk14 b o n (kp13 b o n e)
  have S14 : SIO h14 y dy x 0 := S13.off hyx hdyx kk14
  clear F13 ok13 I13 kp13 S13
  repeat walk_at "gg"
  refine I14.set ok14 p (List.all_eq_true.mp (free752 w.params) _ (by decide +kernel)) (by decide +kernel) (by decide) (fun h15 k15 I15 kk15 => ?_)
  have ok15 := ok14.set I14.hi kk15
  have F15 : Fr ({} : Heap) h.objs.size h15 _ := ⟨F14.ns.at' fun o e => kk15 _ o hLd e, fun b o q => by simp [Heap.get?] at q, Nat.zero_le _⟩
  have kp15 : ∀ b o, b ≠ dx → h.get? b = some o → h15.get? b = some o := fun b o n e => kk15 b o n (kp14 b o n e)
  have S15 : SIO h15 y dy x 0 := S14.off hyx hdyx kk15
  clear F14 ok14 I14 kp14 S14
  repeat walk_at "gg"
  refine I15.set ok15 p (List.all_eq_true.mp (free752 w.params) _ (by decide +kernel)) (by decide +kernel) (by decide) (fun h16 k16 I16 kk16 => ?_)
  have ok16 := ok15.set I15.hi kk16
  have F16 : Fr ({} : Heap) h.objs.size h16 _ := ⟨F15.ns.at' fun o e => kk16 _ o hLd e, fun b o q => by simp [Heap.get?] at q, Nat.zero_le _⟩
  have kp16 : ∀ b o, b ≠ dx → h.get? b = some o → h16.get? b = some o := fun b o n e => kk16 b o n (kp15 b o n e)
  have S16 : SIO h16 y dy x 0 := S15.off hyx hdyx kk16
  clear F15 ok15 I15 kp15 S15
  repeat walk_at "gg"
  have Jrp := I16.ns.ns
  have Lrp := F16.ns
  refine callWith_type0 ?_
  refine deque_call (fun h17 rp hn17 Dp17 kk17 => ?_)
  have ok17 := ok16.keeps kk17
  have I17 := I16.keep kk17
  have F17 : Fr ({} : Heap) h.objs.size h17 _ := ⟨F16.ns.keeps kk17, fun b o q => by simp [Heap.get?] at q, Nat.zero_le _⟩
  have kp17 : ∀ b o, b ≠ dx → h.get? b = some o → h17.get? b = some o := fun b o n e => kk17 b o (kp16 b o n e)
  have S17 : SIO h17 y dy x 0 := S16.keep kk17
  clear F16 ok16 I16 kp16 S16
  have hrpx : rp ≠ dx := fun q => by rw [q] at hn17; obtain ⟨o, _, _, e, _⟩ := Jrp; rw [e] at hn17; cases hn17
  have hrpL : rp ≠ h.objs.size := fun q => by rw [q] at hn17; obtain ⟨o, _, _, e, _⟩ := Lrp; rw [e] at hn17; cases hn17
  repeat walk_at "gg"
  refine I17.set ok17 p (List.all_eq_true.mp (free752 w.params) _ (by decide +kernel)) (by decide +kernel) (by decide) (fun h18 k18 I18 kk18 => ?_)
  have ok18 := ok17.set I17.hi kk18
  have F18 : Fr ({} : Heap) h.objs.size h18 _ := ⟨F17.ns.at' fun o e => kk18 _ o hLd e, fun b o q => by simp [Heap.get?] at q, Nat.zero_le _⟩
  have kp18 : ∀ b o, b ≠ dx → h.get? b = some o → h18.get? b = some o := fun b o n e => kk18 b o n (kp17 b o n e)
  have S18 : SIO h18 y dy x 0 := S17.off hyx hdyx kk18
  have Dp18 : DQ h18 rp := Dp17.at' fun o e => kk18 _ o hrpx e
  clear F17 ok17 I17 kp17 S17 Dp17
  repeat walk_at "gg"
  refine I18.set ok18 p (List.all_eq_true.mp (free752 w.params) _ (by decide +kernel)) (by decide +kernel) (by decide) (fun h19 k19 I19 kk19 => ?_)
  have ok19 := ok18.set I18.hi kk19
  have F19 : Fr ({} : Heap) h.objs.size h19 _ := ⟨F18.ns.at' fun o e => kk19 _ o hLd e, fun b o q => by simp [Heap.get?] at q, Nat.zero_le _⟩
  have kp19 : ∀ b o, b ≠ dx → h.get? b = some o → h19.get? b = some o := fun b o n e => kk19 b o n (kp18 b o n e)
  have S19 : SIO h19 y dy x 0 := S18.off hyx hdyx kk19
  have Dp19 : DQ h19 rp := Dp18.at' fun o e => kk19 _ o hrpx e
  clear F18 ok18 I18 kp18 S18 Dp18
  repeat walk_at "gg"
  refine I19.set ok19 p (List.all_eq_true.mp (free752 w.params) _ (by decide +kernel)) (by decide +kernel) (by decide) (fun h20 k20 I20 kk20 => ?_)
  have ok20 := ok19.set I19.hi kk20
  have F20 : Fr ({} : Heap) h.objs.size h20 _ := ⟨F19.ns.at' fun o e => kk20 _ o hLd e, fun b o q => by simp [Heap.get?] at q, Nat.zero_le _⟩
  have kp20 : ∀ b o, b ≠ dx → h.get? b = some o → h20.get? b = some o := fun b o n e => kk20 b o n (kp19 b o n e)
  have S20 : SIO h20 y dy x 0 := S19.off hyx hdyx kk20
  have Dp20 : DQ h20 rp := Dp19.at' fun o e => kk20 _ o hrpx e
  clear F19 ok19 I19 kp19 S19 Dp19
  repeat walk_at "gg"
  refine I20.set ok20 p (List.all_eq_true.mp (free752 w.params) _ (by decide +kernel)) (by decide +kernel) (by decide) (fun h21 k21 I21 kk21 => ?_)
  have ok21 := ok20.set I20.hi kk21
  have F21 : Fr ({} : Heap) h.objs.size h21 _ := ⟨F20.ns.at' fun o e => kk21 _ o hLd e, fun b o q => by simp [Heap.get?] at q, Nat.zero_le _⟩
  have kp21 : ∀ b o, b ≠ dx → h.get? b = some o → h21.get? b = some o := fun b o n e => kk21 b o n (kp20 b o n e)
  have S21 : SIO h21 y dy x 0 := S20.off hyx hdyx kk21
  have Dp21 : DQ h21 rp := Dp20.at' fun o e => kk21 _ o hrpx e
  clear F20 ok20 I20 kp20 S20 Dp20
  repeat walk_at "gg"
  have Jrf := I21.ns.ns
  have Lrf := F21.ns
  refine callWith_type0 ?_
  refine deque_call (fun h22 rf hn22 Df22 kk22 => ?_)
  have ok22 := ok21.keeps kk22
  have I22 := I21.keep kk22
  have F22 : Fr ({} : Heap) h.objs.size h22 _ := ⟨F21.ns.keeps kk22, fun b o q => by simp [Heap.get?] at q, Nat.zero_le _⟩
  have kp22 : ∀ b o, b ≠ dx → h.get? b = some o → h22.get? b = some o := fun b o n e => kk22 b o (kp21 b o n e)
  have S22 : SIO h22 y dy x 0 := S21.keep kk22
  have Dp22 : DQ h22 rp := Dp21.at' fun o e => kk22 _ o e
  clear F21 ok21 I21 kp21 S21 Dp21
  have hrfx : rf ≠ dx := fun q => by rw [q] at hn22; obtain ⟨o, _, _, e, _⟩ := Jrf; rw [e] at hn22; cases hn22
  have hrfL : rf ≠ h.objs.size := fun q => by rw [q] at hn22; obtain ⟨o, _, _, e, _⟩ := Lrf; rw [e] at hn22; cases hn22
  repeat walk_at "gg"
  refine I22.set ok22 p (List.all_eq_true.mp (free752 w.params) _ (by decide +kernel)) (by decide +kernel) (by decide) (fun h23 k23 I23 kk23 => ?_)
  have ok23 := ok22.set I22.hi kk23
  have F23 : Fr ({} : Heap) h.objs.size h23 _ := ⟨F22.ns.at' fun o e => kk23 _ o hLd e, fun b o q => by simp [Heap.get?] at q, Nat.zero_le _⟩
  have kp23 : ∀ b o, b ≠ dx → h.get? b = some o → h23.get? b = some o := fun b o n e => kk23 b o n (kp22 b o n e)
  have S23 : SIO h23 y dy x 0 := S22.off hyx hdyx kk23
  have Dp23 : DQ h23 rp := Dp22.at' fun o e => kk23 _ o hrpx e
  have Df23 : DQ h23 rf := Df22.at' fun o e => kk23 _ o hrfx e
  clear F22 ok22 I22 kp22 S22 Dp22 Df22
  repeat walk_at "gg"
  refine I23.set ok23 p (List.all_eq_true.mp (free752 w.params) _ (by decide +kernel)) (by decide +kernel) (by decide) (fun h24 k24 I24 kk24 => ?_)
  have ok24 := ok23.set I23.hi kk24
  have F24 : Fr ({} : Heap) h.objs.size h24 _ := ⟨F23.ns.at' fun o e => kk24 _ o hLd e, fun b o q => by simp [Heap.get?] at q, Nat.zero_le _⟩
  have kp24 : ∀ b o, b ≠ dx → h.get? b = some o → h24.get? b = some o := fun b o n e => kk24 b o n (kp23 b o n e)
  have S24 : SIO h24 y dy x 0 := S23.off hyx hdyx kk24
  have Dp24 : DQ h24 rp := Dp23.at' fun o e => kk24 _ o hrpx e
  have Df24 : DQ h24 rf := Df23.at' fun o e => kk24 _ o hrfx e
  clear F23 ok23 I23 kp23 S23 Dp23 Df23
  repeat walk_at "gg"
  refine rSt F24 (fun h25 k25 F25 kk25' => ?_) (by kernel_rfl!) (by kernel_rfl!)
  have kk25 : ∀ b o, b ≠ h.objs.size → h24.get? b = some o → h25.get? b = some o := fun b o n e => kk25' b o e n
  have ok25 : Ok w h25 := ok24.set hL kk25
  have I25 := I24.off (Nat.ne_of_lt hxl) (Nat.ne_of_lt hdl) kk25
  have kp25 : ∀ b o, b ≠ dx → h.get? b = some o → h25.get? b = some o := fun b o n e => kk25 b o (ne b o e) (kp24 b o n e)
  have S25 : SIO h25 y dy x 0 := S24.off hyL hdyL kk25
  have Dp25 : DQ h25 rp := Dp24.at' fun o e => kk25 _ o hrpL e
  have Df25 : DQ h25 rf := Df24.at' fun o e => kk25 _ o hrfL e
  clear F24 ok24 I24 kp24 S24 Dp24 Df24
  repeat walk_at "gg"
  refine I25.set ok25 p (List.all_eq_true.mp (free752 w.params) _ (by decide +kernel)) (by decide +kernel) (by decide) (fun h26 k26 I26 kk26 => ?_)
  have ok26 := ok25.set I25.hi kk26
  have F26 : Fr ({} : Heap) h.objs.size h26 _ := ⟨F25.ns.at' fun o e => kk26 _ o hLd e, fun b o q => by simp [Heap.get?] at q, Nat.zero_le _⟩
  have kp26 : ∀ b o, b ≠ dx → h.get? b = some o → h26.get? b = some o := fun b o n e => kk26 b o n (kp25 b o n e)
  have S26 : SIO h26 y dy x 0 := S25.off hyx hdyx kk26
  have Dp26 : DQ h26 rp := Dp25.at' fun o e => kk26 _ o hrpx e
  have Df26 : DQ h26 rf := Df25.at' fun o e => kk26 _ o hrfx e
  clear F25 ok25 I25 kp25 S25 Dp25 Df25
  repeat walk_at "gg"
  exact H h26 _ _ y dy rp rf ⟨I26, by walk_at "lk", by walk_at "lk", by walk_at "lk", ⟨_, by walk_at "lk"⟩, by walk_at "lk", ⟨_, by walk_at "lk"⟩, ⟨_, by walk_at "lk"⟩, ⟨_, by walk_at "lk"⟩, ⟨_, by walk_at "lk"⟩, by walk_at "lk", ⟨_, by walk_at "lk"⟩, by walk_at "lk", by walk_at "lk", ⟨_, by walk_at "lk"⟩, ⟨_, by walk_at "lk"⟩, ⟨_, by walk_at "lk"⟩, ⟨_, _, by walk_at "lk"⟩⟩ S26 Dp26 Df26 hyd hlt2 kp26
end
section
variable {w : World} {A : Around} {E : Value → Shared → Prop} {h : Heap} {g : Array GenState} {d : Drawn} {k : Nat} {os : OsState} {env : Env} {pos : Pos}
theorem lMakes (P : Params) : makesIn (KK pw P) 752 = true := by kernel_rfl
theorem makeLex {x : Str} {t : Tok} {Q : Value → Shared → Prop} (hd : A.depth + 4 < recursionLimit) (ok : Ok w h)
    (H : ∀ h' k' xx dx mA y dy rp rf, LexI h' xx dx y dy rp rf mA → SIO h' y dy x 0 → DQ h' rp → DQ h' rf → h.objs.size ≤ dx → dx < xx → xx < dy → dy < y → (∀ b o, h.get? b = some o → h'.get? b = some o) → Q (.ref xx) ⟨h', g, d, k', os⟩) :
    wpAny (MM w) A (call (.ref 752) [.str x t] [("posix", .bool true)]) Q E ⟨h, g, d, k, os⟩ := by
  have hL : 838 ≤ h.objs.size := Heap.lt_size (a837 ok)
  refine wpAny_call (make_core (makes_of ok.K (lMakes w.params)) (looks_findIn ok.K (show findIn (KK pw w.params) (.ref 752) "__init__" = some (some (.ref 676)) by kernel_rfl!)) (fun self => bind_fn ok.K self (by kernel_rfl!)) (.inl rfl) ?_)
  have kp : ∀ b o, h.get? b = some o → ((h.push emptyDict).push (instObj 752 h.objs.size)).get? b = some o := fun b o e => Heap.get?_push_of_some _ (Heap.get?_push_of_some _ e)
  have hs : (h.push emptyDict).objs.size = h.objs.size + 1 := Heap.size_push ..
  have hx : ((h.push emptyDict).push (instObj 752 h.objs.size)).get? (h.objs.size + 1) = some (instObj 752 h.objs.size) := by rw [← hs]; exact Heap.get?_push_size _ rfl
  have hdx : ((h.push emptyDict).push (instObj 752 h.objs.size)).get? h.objs.size = some emptyDict := Heap.get?_push_of_some _ (Heap.get?_push_size _ rfl)
  have hsz : ((h.push emptyDict).push (instObj 752 h.objs.size)).objs.size = h.objs.size + 2 := by rw [Heap.size_push, hs]
  generalize (h.push emptyDict).push (instObj 752 h.objs.size) = h₁ at kp hx hdx hsz ⊢
  refine linit_spec (by show A.depth + 1 + 3 < _; omega) (ok.keeps kp) (IN.new hx hdx (Nat.lt_succ_self _) hL) (by rw [hsz]; exact Nat.lt_succ_self _) (fun h' k' mA y dy rp rf LI S Dp Df l1 l2 kk => ?_)
  refine ⟨rfl, ?_⟩
  exact H h' k' _ _ mA y dy rp rf LI S Dp Df (Nat.le_refl _) (Nat.lt_succ_self _) (by rw [hsz] at l1; exact Nat.lt_trans (Nat.lt_succ_self _) l1) l2 fun b o e => kk b o (fun q => by rw [q, fresh_none] at e; cases e) (kp b o e)
theorem wordc_ok : WOk wordc := ⟨by decide +kernel, by decide +kernel, by decide +kernel, by decide +kernel⟩
theorem LexI.fix {h : Heap} {x dx y dy rp rf : Addr} {mA mC : Str → Option Value} {t : Tok} (L : LexI h x dx y dy rp rf mA) (hC : mC = fun z => if z = (("commenters" : String) : Str) then some (.str "" t) else if z = (("whitespace_split" : String) : Str) then some (.bool true) else mA z) (hw : Within mC lexN) : LexFix mC y rp rf wordc := by
  obtain ⟨I, f1, f2, f3, ⟨t5, f5⟩, f7, ⟨t6, f6⟩, ⟨t8, f8⟩, ⟨t9, f9⟩, ⟨t10, f10⟩, f11, ⟨t12, f12⟩, f13, f14, ⟨t15, f15⟩, _, _, _⟩ := L
  have off : ∀ n : Str, n ≠ (("commenters" : String) : Str) → n ≠ (("whitespace_split" : String) : Str) → mC n = mA n := fun n a b => by rw [hC]; exact (if_neg a).trans (if_neg b)
  have o := fun n (q : (decide (n ≠ (("commenters" : String) : Str)) && decide (n ≠ (("whitespace_split" : String) : Str))) = true) => off n (of_decide_eq_true (Bool.and_eq_true _ _ |>.mp q).1) (of_decide_eq_true (Bool.and_eq_true _ _ |>.mp q).2)
  exact ⟨(o _ (by decide +kernel)).trans f1, (o _ (by decide +kernel)).trans f2, (o _ (by decide +kernel)).trans f3, ⟨t, by rw [hC]; exact if_pos rfl⟩, ⟨t5, (o _ (by decide +kernel)).trans f5⟩, ⟨t6, (o _ (by decide +kernel)).trans f6⟩, by rw [hC]; exact (if_neg (by decide +kernel)).trans (if_pos rfl), ⟨t8, (o _ (by decide +kernel)).trans f8⟩, ⟨t9, (o _ (by decide +kernel)).trans f9⟩, ⟨t10, (o _ (by decide +kernel)).trans f10⟩, (o _ (by decide +kernel)).trans f11, ⟨t12, (o _ (by decide +kernel)).trans f12⟩, (o _ (by decide +kernel)).trans f13, (o _ (by decide +kernel)).trans f14, ⟨t15, (o _ (by decide +kernel)).trans f15⟩, fun n hn => Classical.byContradiction fun q => hn (hw n q)⟩
theorem split_spec {x : Str} {t : Tok} {ts : List Str} {outer : List Env} (hd : A.depth + 14 < recursionLimit) (hh : A.handled = none) (K : Below A ({} : Heap) outer h) (ok : Ok w h) (hx : x.length ≤ 9999) (hR : Reads .S x.cps.toList ts) (hlen : ts.length ≤ 100) :
    wpAny (MM w) A (call (.ref 764) [.str x t]) (fun v s' => ∃ r h' k', v = .ref r ∧ s' = ⟨h', g, d, k', os⟩ ∧ SL h' r ts ∧ UpF (fSet outer) h h') E ⟨h, g, d, k, os⟩ := by
  refine callP (nm := "split") (q := "split") (dd := oSt pw 26) (dflt := .ref 757) (pm := .str "cpy313.shlex" 1115) (c := 763) (binds := [("s", .str x t), ("comments", .bool false), ("posix", .bool true)]) ok (a764 ok) (c763 ok) (by omega) (fun _ => by kernel_rfl!) (by kernel_rfl!) (fun h₁ k₁ F => ?_) (by kernel_rfl!)
  have hL : 838 ≤ h.objs.size := Heap.lt_size (a837 ok)
  have ne : ∀ b o, h.get? b = some o → b ≠ h.objs.size := fun b o e q => by rw [q, fresh_none] at e; cases e
  have ok1 := ok.fr F
  have K1 := K.push (name := (("split" : String) : Str)) (scope := oScope (oSt pw 26)) (a := 764) (cd := .ref 763) F (by kernel_rfl!)
  have p := pc752 w.params
  refine wpAny_execs_cons ?_
  repeat walk_at "gg"
  refine wpAny_Call_Name_kw ?_
  repeat walk_at "gg"
  refine callWith_KW (K := KK pw w.params) ok1.K (by kernel_rfl!) (by with_unfolding_all rfl) ?_ (by with_unfolding_all rfl) (by with_unfolding_all rfl)
  repeat walk_at "gg"
  refine wpAny_evalAll_cons ?_
  refine wpAny_bind ?_
  repeat walk_at "gg"
  refine wpAny_bind (wpAny_standAt (wpAny_pure ?_))
  refine wpAny_evalAll_nil ?_
  refine ⟨ok1.K, ?_⟩
  refine makeLex (by show A.depth + 1 + 4 < _; omega) ok1 (fun h₂ k₂ xx dx mA y dy rp rf LI S Dp Df l1 l2 l3 l4 kk2 => ?_)
  have hLl := F.ns.lt
  have e1 : xx ≠ h.objs.size := Nat.ne_of_gt (Nat.lt_trans (Nat.lt_of_lt_of_le hLl l1) l2)
  have e2 : dx ≠ h.objs.size := Nat.ne_of_gt (Nat.lt_of_lt_of_le hLl l1)
  have e4 : dy ≠ h.objs.size := Nat.ne_of_gt (Nat.lt_trans (Nat.lt_trans (Nat.lt_of_lt_of_le hLl l1) l2) l3)
  have e3 : y ≠ h.objs.size := Nat.ne_of_gt (Nat.lt_trans (Nat.lt_trans (Nat.lt_trans (Nat.lt_of_lt_of_le hLl l1) l2) l3) l4)
  have nf : ∀ z o, h₁.get? z = some o → z ≠ dx ∧ z ≠ dy ∧ z ≠ xx ∧ z ≠ y := fun z o e => by
    have hz := Nat.lt_of_lt_of_le (Heap.lt_size e) l1
    exact ⟨Nat.ne_of_lt hz, Nat.ne_of_lt (Nat.lt_trans hz (Nat.lt_trans l2 l3)), Nat.ne_of_lt (Nat.lt_trans hz l2), Nat.ne_of_lt (Nat.lt_trans hz (Nat.lt_trans l2 (Nat.lt_trans l3 l4)))⟩
  have F2 := F.kept kk2
  have ok2 := ok1.keeps kk2
  have K2 : Below _ _ _ h₂ := below_at K1 fun b hb o e => kk2 b o e
  have rpd : rp ≠ dx ∧ rp ≠ dy := ⟨Dp.ne LI.I.ns.ns, by obtain ⟨mB, _, _, J, _⟩ := S.all; exact Dp.ne J.ns.ns⟩
  have rfd : rf ≠ dx ∧ rf ≠ dy := ⟨Df.ne LI.I.ns.ns, by obtain ⟨mB, _, _, J, _⟩ := S.all; exact Df.ne J.ns.ns⟩
  have rpL : rp ≠ h.objs.size := Dp.ne F2.ns
  have rfL : rf ≠ h.objs.size := Df.ne F2.ns
  clear ok1 K1
  refine rSt F2 (fun h₃ k₃ F3 kk3' => ?_) (by kernel_rfl!) (by kernel_rfl!)
  have kk3 : ∀ b o, b ≠ h.objs.size → h₂.get? b = some o → h₃.get? b = some o := fun b o n e => kk3' b o e n
  have ok3 : Ok w h₃ := ok2.set hL kk3
  have I3 := LI.I.off e1 e2 kk3
  have S3 := S.off e3 e4 kk3
  have Dp3 : DQ h₃ rp := Dp.at' fun o e => kk3 _ o rpL e
  have Df3 : DQ h₃ rf := Df.at' fun o e => kk3 _ o rfL e
  have G3 : Fr ({} : Heap) h.objs.size h₃ _ := ⟨F3.ns, fun b o q => by simp [Heap.get?] at q, Nat.zero_le _⟩
  have kp3 : ∀ b o, h.get? b = some o → h₃.get? b = some o := F3.keep
  clear F2 F3 ok2
  have hdxy : dx ≠ dy := Nat.ne_of_lt (Nat.lt_trans l2 l3)
  have hydx : y ≠ dx := Nat.ne_of_gt (Nat.lt_trans l2 (Nat.lt_trans l3 l4))
  repeat walk_at "gg"
  refine I3.set ok3 p (List.all_eq_true.mp (free752 w.params) _ (by decide +kernel)) (by decide +kernel) (by decide) (fun h₄ k₄ I4 kk4 => ?_)
  have ok4 := ok3.set I3.hi kk4
  have S4 := S3.off hydx (Ne.symm hdxy) kk4
  have Dp4 : DQ h₄ rp := Dp3.at' fun o e => kk4 _ o rpd.1 e
  have Df4 : DQ h₄ rf := Df3.at' fun o e => kk4 _ o rfd.1 e
  have G4 : Fr ({} : Heap) h.objs.size h₄ _ := ⟨G3.ns.at' fun o e => kk4 _ o e2.symm e, fun b o q => by simp [Heap.get?] at q, Nat.zero_le _⟩
  clear ok3 I3 S3 Dp3 Df3 G3
  repeat walk_at "gg"
  refine I4.set ok4 p (List.all_eq_true.mp (free752 w.params) _ (by decide +kernel)) (by decide +kernel) (by decide) (fun h₅ k₅ I5 kk5 => ?_)
  have ok5 := ok4.set I4.hi kk5
  have S5 := S4.off hydx (Ne.symm hdxy) kk5
  have Dp5 : DQ h₅ rp := Dp4.at' fun o e => kk5 _ o rpd.1 e
  have Df5 : DQ h₅ rf := Df4.at' fun o e => kk5 _ o rfd.1 e
  have G5 : Fr ({} : Heap) h.objs.size h₅ _ := ⟨G4.ns.at' fun o e => kk5 _ o e2.symm e, fun b o q => by simp [Heap.get?] at q, Nat.zero_le _⟩
  have fx := LI.fix rfl I5.wi
  obtain ⟨ts', hst⟩ := LI.state
  obtain ⟨tk', htk⟩ := LI.token
  obtain ⟨n', tn', hln⟩ := LI.lineno
  have X5 : LX h₅ xx dx y dy rp rf wordc x 0 (.str " " ts') "" := ⟨_, tk', I5, fx, by walk_at "lk", by walk_at "lk", S5, ⟨hdxy, Nat.ne_of_lt l3, hydx⟩, n', tn', by walk_at "lk"⟩
  have nS : ∀ b, b ∈ fSet (envOf (("split" : String) : Str) (oScope (oSt pw 26)) h.objs.size 764 (.ref 763) :: outer) → b ≠ dx ∧ b ≠ dy := by
    intro b hb
    rcases List.mem_cons.mp hb with hb | hb
    · rw [show b = h.objs.size from hb]; exact ⟨e2.symm, e4.symm⟩
    · obtain ⟨_, o, ho, _⟩ := K.frames.mem hb
      exact ⟨(nf b o (F.keep _ _ ho)).1, (nf b o (F.keep _ _ ho)).2.1⟩
  have K5 : Below (A.deeper (envOf (("split" : String) : Str) (oScope (oSt pw 26)) h.objs.size 764 (.ref 763))) ({} : Heap) (envOf (("split" : String) : Str) (oScope (oSt pw 26)) h.objs.size 764 (.ref 763) :: outer) h₅ := by
    obtain ⟨a1, a2, a3, a4, a5⟩ := K2
    refine ⟨a1, fun b o q => by simp [Heap.get?] at q, a3, ?_, frames_at K.frames fun b hb o e => kk5 b o (nS b (List.mem_cons_of_mem _ hb)).1 (kk4 b o (nS b (List.mem_cons_of_mem _ hb)).1 (kp3 b o e))⟩
    obtain ⟨o, es, ep, ho, hdd, _⟩ := G5.ns
    exact ⟨h.objs.size, o, rfl, by simp [Heap.get?], ho, fun vs q => by rw [hdd] at q; cases q⟩
  clear ok4 I4 S4 Dp4 Df4 G4
  repeat walk_at "gg"
  refine list_spec (st := .S) (by show A.depth + 1 + 12 < _; omega) hh K5 ok5 ⟨ts', rfl⟩ X5 Dp5 Df5 hx (Nat.zero_le _) wordc_ok hR ⟨fun q => (nS _ q).1 rfl, fun q => (nS _ q).2 rfl⟩ hlen (fun h₆ k₆ r hsl kk6 => ?_)
  refine ⟨r, h₆, _, rfl, rfl, hsl, fun b o e => ?_⟩
  obtain ⟨n1, n2, _⟩ := nf b o (F.keep b o e)
  obtain ⟨u1, u2⟩ := kk6 b o n1 n2 (kk5 b o n1 (kk4 b o n1 (kp3 b o e)))
  exact ⟨fun hb => u1 fun hm => (List.mem_cons.mp hm).elim (fun q => ne b o e q) hb, u2⟩
end
/-! ## The plain law -/
def W9 : List Str := ["", " '", " a", "'", "''", "'a", "a", "a'", "aa"]
def rk (x : Str) : Nat := W9.idxOf x
theorem rk_lt : ∀ x ∈ words, ∀ y ∈ words, decide (x.cps.toList < y.cps.toList) = decide (rk x < rk y) := by decide +kernel
theorem rk_cps : ∀ x ∈ words, ∀ y ∈ words, Spec.ltCps x.cps.toList y.cps.toList = decide (rk x < rk y) := by decide +kernel
theorem rk_inj : ∀ x ∈ words, ∀ y ∈ words, rk x = rk y → x = y := by decide +kernel
theorem rk_words : ∀ x ∈ words, x ∈ W9 := by decide +kernel
theorem rk_W9 : ∀ x ∈ W9, x ∈ words := by decide +kernel
theorem W9_rise : W9.Pairwise (fun x y => rk x < rk y) := by decide +kernel
abbrev InW (l : List Str) : Prop := ∀ y ∈ l, y ∈ words
abbrev Rise (l : List Str) : Prop := l.Pairwise (fun x y => rk x < rk y)
theorem rise_of_risingS : ∀ (l : List Str) (p : Str), p ∈ words → InW l → p ∉ l → l.Nodup → risingS p l = true → Rise (p :: l)
  | [], p, _, _, _, _, _ => by simp
  | x :: l, p, hp, hl, hpn, hn, hr => by
    obtain ⟨hx, hn⟩ := List.nodup_cons.mp hn
    rw [risingS, Bool.and_eq_true] at hr
    have hxw := hl x List.mem_cons_self
    have ih := rise_of_risingS l x hxw (fun y hy => hl y (List.mem_cons_of_mem _ hy)) hx hn hr.2
    have h1 : ¬ rk x < rk p := by
      have := hr.1
      rw [rk_cps x hxw p hp] at this
      simpa using this
    have h2 : rk p ≠ rk x := fun e => hpn (by rw [rk_inj p hp x hxw e]; exact List.mem_cons_self)
    have h3 : rk p < rk x := by omega
    refine List.pairwise_cons.mpr ⟨fun y hy => ?_, ih⟩
    rcases List.mem_cons.mp hy with rfl | hy
    · exact h3
    · exact Nat.lt_trans h3 ((List.pairwise_cons.mp ih).1 y hy)
theorem rise_of {l : List Str} (hl : InW l) (hn : l.Nodup) (hs : sortedS l = true) : Rise l := by
  cases l with
  | nil => exact .nil
  | cons p l =>
    obtain ⟨hp, hn⟩ := List.nodup_cons.mp hn
    exact rise_of_risingS l p (hl p List.mem_cons_self) (fun y hy => hl y (List.mem_cons_of_mem _ hy)) hp hn hs
theorem rise_eq : ∀ {l m : List Str}, Rise l → Rise m → (∀ y, y ∈ l ↔ y ∈ m) → l = m
  | [], [], _, _, _ => rfl
  | [], y :: m, _, _, h => by have := (h y).mpr List.mem_cons_self; cases this
  | x :: l, [], _, _, h => by have := (h x).mp List.mem_cons_self; cases this
  | x :: l, y :: m, hl, hm, h => by
    obtain ⟨hx, hl2⟩ := List.pairwise_cons.mp hl
    obtain ⟨hy, hm2⟩ := List.pairwise_cons.mp hm
    have e : x = y := by
      rcases List.mem_cons.mp ((h x).mp List.mem_cons_self) with e | e
      · exact e
      · rcases List.mem_cons.mp ((h y).mpr List.mem_cons_self) with e' | e'
        · exact e'.symm
        · have := hy x e; have := hx y e'; omega
    subst e
    congr 1
    refine rise_eq hl2 hm2 fun z => ⟨fun hz => ?_, fun hz => ?_⟩
    · rcases List.mem_cons.mp ((h z).mp (List.mem_cons_of_mem _ hz)) with e | e
      · subst e; have := hx z hz; omega
      · exact e
    · rcases List.mem_cons.mp ((h z).mpr (List.mem_cons_of_mem _ hz)) with e | e
      · subst e; have := hy z hz; omega
      · exact e
theorem Rise.nodup {l : List Str} (h : Rise l) : l.Nodup := h.imp fun {a b} q e => by subst e; omega
theorem Rise.filter {l : List Str} (h : Rise l) (p : Str → Bool) : Rise (l.filter p) := List.Pairwise.filter p h
/-- the difference of two rising lists -/
theorem diff_eq : ∀ (xs ys : List Str), InW xs → InW ys → Rise xs → Rise ys → diff xs ys = (xs.filter (fun y => !(ys.any (· == y))), ys.filter (fun y => !(xs.any (· == y))))
  | [], ys, _, _, _, _ => by
    rw [diff_nil_left]
    congr 1
    · symm; rw [List.filter_eq_self]; simp
  | x :: xs, [], _, _, _, _ => by
    rw [diff_nil_right]
    congr 1
    · symm; rw [List.filter_eq_self]; simp
  | x :: xs, y :: ys, hx, hy, rx, ry => by
    have xw := hx x List.mem_cons_self
    have yw := hy y List.mem_cons_self
    have hx' : InW xs := fun z hz => hx z (List.mem_cons_of_mem _ hz)
    have hy' : InW ys := fun z hz => hy z (List.mem_cons_of_mem _ hz)
    obtain ⟨rx1, rx2⟩ := List.pairwise_cons.mp rx
    obtain ⟨ry1, ry2⟩ := List.pairwise_cons.mp ry
    rw [diff]
    have e1 := rk_lt x xw y yw
    have e2 := rk_lt y yw x xw
    rw [decide_eq_decide] at e1 e2
    have memF : ∀ (l : List Str) (z : Str), z ∉ l → l.any (· == z) = false := fun l z hz => by
      rw [List.any_eq_false]; intro u hu q; exact hz (by rw [← beq_iff_eq.mp q]; exact hu)
    have memT : ∀ (l : List Str) (z : Str), z ∈ l → l.any (· == z) = true := fun l z hz => List.any_eq_true.mpr ⟨z, hz, by simp⟩
    by_cases h1 : rk x < rk y
    · rw [if_pos (e1.mpr h1), diff_eq xs (y :: ys) hx' hy rx2 ry]
      have xn : x ∉ y :: ys := fun hm => by
        rcases List.mem_cons.mp hm with e | hm
        · subst e; omega
        · have := ry1 x hm; omega
      rw [List.filter_cons_of_pos (p := fun z => !((y :: ys).any (· == z))) (by rw [memF _ _ xn]; rfl)]
      congr 1
      refine List.filter_congr fun z hz => ?_
      have : (x == z) = false := beq_eq_false_iff_ne.mpr fun e => xn (e ▸ hz)
      rw [List.any_cons, this, Bool.false_or]
    · rw [if_neg (fun q => h1 (e1.mp q))]
      by_cases h2 : rk y < rk x
      · rw [if_pos (e2.mpr h2), diff_eq (x :: xs) ys hx hy' rx ry2]
        have yn : y ∉ x :: xs := fun hm => by
          rcases List.mem_cons.mp hm with e | hm
          · subst e; omega
          · have := rx1 y hm; omega
        rw [List.filter_cons_of_pos (p := fun z => !((x :: xs).any (· == z))) (by rw [memF _ _ yn]; rfl)]
        congr 1
        refine List.filter_congr fun z hz => ?_
        have : (y == z) = false := beq_eq_false_iff_ne.mpr fun e => yn (e ▸ hz)
        rw [List.any_cons, this, Bool.false_or]
      · rw [if_neg (fun q => h2 (e2.mp q)), diff_eq xs ys hx' hy' rx2 ry2]
        have e : x = y := rk_inj x xw y yw (by omega)
        subst e
        rw [List.filter_cons_of_neg (p := fun z => !((x :: ys).any (· == z))) (by rw [memT _ _ List.mem_cons_self]; simp), List.filter_cons_of_neg (p := fun z => !((x :: xs).any (· == z))) (by rw [memT _ _ List.mem_cons_self]; simp)]
        congr 1
        · refine List.filter_congr fun z hz => ?_
          have : (x == z) = false := beq_eq_false_iff_ne.mpr fun e => by subst e; have := rx1 x hz; omega
          rw [List.any_cons, this, Bool.false_or]
        · refine List.filter_congr fun z hz => ?_
          have : (x == z) = false := beq_eq_false_iff_ne.mpr fun e => by subst e; have := ry1 x hz; omega
          rw [List.any_cons, this, Bool.false_or]
termination_by xs ys => xs.length + ys.length
theorem any_mem (l : List Str) (y : Str) : l.any (· == y) = decide (y ∈ l) := by
  rw [Bool.eq_iff_iff, List.any_eq_true, decide_eq_true_eq]
  exact ⟨fun ⟨z, hz, e⟩ => beq_iff_eq.mp e ▸ hz, fun h => ⟨y, h, by simp⟩⟩
def gone (a b : List Str) : List Str := a.filter fun y => !(b.any (· == y))
theorem mem_gone {a b : List Str} {y : Str} : y ∈ gone a b ↔ y ∈ a ∧ y ∉ b := by
  unfold gone; rw [List.mem_filter, any_mem]; simp
def toldOf (a b : List Str) : List (Bool × Str) := (gone a b).map (fun y => (true, y)) ++ (gone b a).map (fun y => (false, y))
theorem toldOf_map (a b : List Str) : (toldOf a b).map chg = (gone a b).map minus ++ (gone b a).map plus := by
  unfold toldOf; rw [List.map_append, List.map_map, List.map_map]; rfl
theorem fold_gone : ∀ (l ws : List Str), (∀ y, y ∈ (l.map fun y => (true, y)).foldl apply1 ws ↔ y ∈ ws ∧ y ∉ l) ∧ (ws.Nodup → ((l.map fun y => (true, y)).foldl apply1 ws).Nodup)
  | [], ws => ⟨fun y => by simp, fun h => h⟩
  | x :: l, ws => by
    obtain ⟨h1, h2⟩ := fold_gone l (apply1 ws (true, x))
    have e : apply1 ws (true, x) = ws.filter (· != x) := by simp [apply1]
    rw [List.map_cons, List.foldl_cons]
    refine ⟨fun y => ?_, fun h => h2 (by rw [e]; exact List.Pairwise.filter _ h)⟩
    rw [h1 y, e, List.mem_filter, List.mem_cons]
    simp only [bne_iff_ne]
    constructor
    · rintro ⟨⟨a, b⟩, c⟩; exact ⟨a, fun q => q.elim b c⟩
    · rintro ⟨a, b⟩; exact ⟨⟨a, fun q => b (.inl q)⟩, fun q => b (.inr q)⟩
theorem fold_come : ∀ (l ws : List Str), (∀ y, y ∈ (l.map fun y => (false, y)).foldl apply1 ws ↔ y ∈ ws ∨ y ∈ l) ∧ (ws.Nodup → ((l.map fun y => (false, y)).foldl apply1 ws).Nodup)
  | [], ws => ⟨fun y => by simp, fun h => h⟩
  | x :: l, ws => by
    obtain ⟨h1, h2⟩ := fold_come l (apply1 ws (false, x))
    rw [List.map_cons, List.foldl_cons]
    by_cases hx : x ∈ ws
    · have e : apply1 ws (false, x) = ws := by simp [apply1, any_mem, hx]
      rw [e] at h1 h2 ⊢
      refine ⟨fun y => ?_, h2⟩
      rw [h1 y, List.mem_cons]
      constructor
      · rintro (a | a); exact .inl a; exact .inr (.inr a)
      · rintro (a | a | a); exact .inl a; subst a; exact .inl hx; exact .inr a
    · have e : apply1 ws (false, x) = ws ++ [x] := by simp [apply1, any_mem, hx]
      rw [e] at h1 h2 ⊢
      refine ⟨fun y => ?_, fun h => h2 ?_⟩
      · rw [h1 y, List.mem_append, List.mem_singleton, List.mem_cons]
        constructor
        · rintro ((a | a) | a); exact .inl a; exact .inr (.inl a); exact .inr (.inr a)
        · rintro (a | a | a); exact .inl (.inl a); exact .inl (.inr a); exact .inr a
      · rw [List.nodup_append]
        exact ⟨h, by simp, fun a ha b hb e' => by rw [List.mem_singleton] at hb; rw [hb] at e'; exact hx (e' ▸ ha)⟩
theorem fold_told (a b ws : List Str) : (∀ y, y ∈ (toldOf a b).foldl apply1 ws ↔ (y ∈ ws ∧ ¬ (y ∈ a ∧ y ∉ b)) ∨ (y ∈ b ∧ y ∉ a)) ∧ (ws.Nodup → ((toldOf a b).foldl apply1 ws).Nodup) := by
  unfold toldOf
  rw [List.foldl_append]
  obtain ⟨h1, h2⟩ := fold_gone (gone a b) ws
  obtain ⟨h3, h4⟩ := fold_come (gone b a) (((gone a b).map fun y => (true, y)).foldl apply1 ws)
  refine ⟨fun y => ?_, fun h => h4 (h2 h)⟩
  rw [h3 y, h1 y, mem_gone, mem_gone]
theorem told_words {a b : List Str} (ha : InW a) (hb : InW b) : ∀ y ∈ toldOf a b, y.2 ∈ words := by
  intro y hy
  unfold toldOf at hy
  rcases List.mem_append.mp hy with h | h
  · obtain ⟨z, hz, rfl⟩ := List.mem_map.mp h; exact ha z (mem_gone.mp hz).1
  · obtain ⟨z, hz, rfl⟩ := List.mem_map.mp h; exact hb z (mem_gone.mp hz).1
theorem told_len (a b : List Str) : (toldOf a b).length ≤ a.length + b.length := by
  unfold toldOf gone
  rw [List.length_append, List.length_map, List.length_map]
  exact Nat.add_le_add (List.length_filter_le _ _) (List.length_filter_le _ _)
/-- a sorted list is known by its words -/
theorem sort_eq {ss l tt : List Str} (hp : ss.Perm l) (hn : l.Nodup) (hw : InW l) (hs : sortedS ss = true) (ht : Rise tt) (h : ∀ y, y ∈ l ↔ y ∈ tt) : ss = tt :=
  rise_eq (rise_of (fun y hy => hw y (hp.mem_iff.mp hy)) (hp.nodup_iff.mpr hn) hs) ht fun y => hp.mem_iff.trans (h y)
theorem fold_inW {a b ws : List Str} (hb : InW b) (hw : InW ws) : InW ((toldOf a b).foldl apply1 ws) := fun y hy => by
  rcases ((fold_told a b ws).1 y).mp hy with h | h
  · exact hw y h.1
  · exact hb y h.1
theorem diff_gone {a b : List Str} (ra : Rise a) (rb : Rise b) (wa : InW a) (wb : InW b) : diff a b = (gone a b, gone b a) := diff_eq a b wa wb ra rb
section
variable {old mine yours : List Str} (ro : Rise old) (rm : Rise mine) (ry : Rise yours) (wo : InW old) (wm : InW mine) (wy : InW yours)
include ro rm ry wo wm wy
theorem law1 {ss : List Str} (hp : ss.Perm ((toldOf old mine).foldl apply1 old)) (hs : sortedS ss = true) : ss = mine := by
  obtain ⟨h1, h2⟩ := fold_told old mine old
  refine sort_eq hp (h2 ro.nodup) (fold_inW wm wo) hs rm fun y => (h1 y).trans ?_
  by_cases a : y ∈ old <;> by_cases b : y ∈ mine <;> simp [a, b]
theorem both_rise {ss : List Str} (hp : ss.Perm ((toldOf old mine).foldl apply1 yours)) (hs : sortedS ss = true) : Rise ss ∧ InW ss ∧ ∀ y, y ∈ ss ↔ (y ∈ yours ∧ ¬ (y ∈ old ∧ y ∉ mine)) ∨ (y ∈ mine ∧ y ∉ old) := by
  obtain ⟨h1, h2⟩ := fold_told old mine yours
  have hw := fold_inW (a := old) wm wy
  exact ⟨rise_of (fun y hy => hw y (hp.mem_iff.mp hy)) (hp.nodup_iff.mpr (h2 ry.nodup)) hs, fun y hy => hw y (hp.mem_iff.mp hy), fun y => hp.mem_iff.trans (h1 y)⟩
theorem law2 {ss tt : List Str} (hp : ss.Perm ((toldOf old mine).foldl apply1 yours)) (hs : sortedS ss = true) (hp' : tt.Perm ((toldOf old yours).foldl apply1 mine)) (hs' : sortedS tt = true) : tt = ss := by
  obtain ⟨r, w, h⟩ := both_rise ro rm ry wo wm wy hp hs
  obtain ⟨h1, h2⟩ := fold_told old yours mine
  refine sort_eq hp' (h2 rm.nodup) (fold_inW wy wm) hs' r fun y => (h1 y).trans (Iff.trans ?_ (h y).symm)
  by_cases a : y ∈ old <;> by_cases b : y ∈ mine <;> by_cases c : y ∈ yours <;> simp [a, b, c]
theorem law3 {ss tt ks : List Str} {p : Str → Bool} (hp : ss.Perm ((toldOf old mine).foldl apply1 yours)) (hs : sortedS ss = true) (hp' : tt.Perm (ks.filter p)) (hs' : sortedS tt = true) (hk : ks.Nodup) (hkw : InW ks)
    (hks : ∀ y, y ∈ old ∨ y ∈ mine ∨ y ∈ yours → y ∈ ks) (hpp : ∀ y ∈ ks, p y = true ↔ (y ∈ yours ∧ ¬ (y ∈ old ∧ y ∉ mine)) ∨ (y ∈ mine ∧ y ∉ old)) : tt = ss := by
  obtain ⟨r, w, h⟩ := both_rise ro rm ry wo wm wy hp hs
  refine sort_eq hp' (List.Pairwise.filter _ hk) (fun y hy => hkw y (List.mem_filter.mp hy).1) hs' r fun y => ?_
  rw [List.mem_filter, h y]
  constructor
  · rintro ⟨a, b⟩; exact (hpp y a).mp b
  · intro a
    have hy : y ∈ ks := hks y (by rcases a with a | a; exact .inr (.inr a.1); exact .inr (.inl a.1))
    exact ⟨hy, (hpp y hy).mpr a⟩
omit ro rm ry wo wm wy in
theorem minus_inj : ∀ x ∈ words, ∀ y ∈ words, minus x = minus y → x = y := by decide +kernel
omit ro rm ry wo wm wy in
theorem plus_inj : ∀ x ∈ words, ∀ y ∈ words, plus x = plus y → x = y := by decide +kernel
omit ro rm ry wo wm wy in
theorem minus_plus : ∀ x ∈ words, ∀ y ∈ words, minus x ≠ plus y := by decide +kernel
theorem law6 {both : List Str} (rb : Rise both) (wb : InW both) (hb : ∀ y, y ∈ both ↔ (y ∈ yours ∧ ¬ (y ∈ old ∧ y ∉ mine)) ∨ (y ∈ mine ∧ y ∉ old)) :
    (toldOf mine both).map chg = ((toldOf old yours).map chg).filter (fun c => !(((toldOf old mine).map chg).any (· == c))) := by
  rw [toldOf_map, toldOf_map, toldOf_map, List.filter_append, List.filter_map, List.filter_map]
  have g1 : gone mine both = (gone old yours).filter (((fun c => !(((gone old mine).map minus ++ (gone mine old).map plus).any (· == c)))) ∘ minus) := by
    refine rise_eq (rm.filter _) ((ro.filter _).filter _) fun y => ?_
    rw [List.mem_filter, mem_gone, mem_gone, hb y]
    simp only [Function.comp, any_mem, Bool.not_eq_true', decide_eq_false_iff_not, List.mem_append, List.mem_map, mem_gone]
    constructor
    · rintro ⟨hm, hn⟩
      have ho : y ∈ old := Classical.byContradiction fun q => hn (.inr ⟨hm, q⟩)
      have hy : y ∉ yours := fun q => hn (.inl ⟨q, fun z => z.2 hm⟩)
      refine ⟨⟨ho, hy⟩, ?_⟩
      rintro (⟨z, ⟨z1, z2⟩, e⟩ | ⟨z, ⟨z1, z2⟩, e⟩)
      · rw [minus_inj z (wo z z1) y (wo y ho) e] at z2; exact z2 hm
      · exact minus_plus y (wo y ho) z (wm z z1) e.symm
    · rintro ⟨⟨ho, hy⟩, hn⟩
      have hm : y ∈ mine := Classical.byContradiction fun q => hn (.inl ⟨y, ⟨ho, q⟩, rfl⟩)
      exact ⟨hm, fun q => q.elim (fun q => hy q.1) fun q => q.2 ho⟩
  have g2 : gone both mine = (gone yours old).filter (((fun c => !(((gone old mine).map minus ++ (gone mine old).map plus).any (· == c)))) ∘ plus) := by
    refine rise_eq (rb.filter _) ((ry.filter _).filter _) fun y => ?_
    rw [List.mem_filter, mem_gone, mem_gone, hb y]
    simp only [Function.comp, any_mem, Bool.not_eq_true', decide_eq_false_iff_not, List.mem_append, List.mem_map, mem_gone]
    constructor
    · rintro ⟨q | q, hm⟩
      · have ho : y ∉ old := fun z => q.2 ⟨z, hm⟩
        refine ⟨⟨q.1, ho⟩, ?_⟩
        rintro (⟨z, ⟨z1, z2⟩, e⟩ | ⟨z, ⟨z1, z2⟩, e⟩)
        · exact minus_plus z (wo z z1) y (wy y q.1) e
        · rw [plus_inj z (wm z z1) y (wy y q.1) e] at z1; exact hm z1
      · exact absurd q.1 hm
    · rintro ⟨⟨hy, ho⟩, hn⟩
      exact ⟨.inl ⟨hy, fun q => ho q.1⟩, fun q => hn (.inr ⟨y, ⟨q, ho⟩, rfl⟩)⟩
  rw [g1, g2]
end
theorem kept_iff {b : Int} (h0 : 0 ≤ b) (h8 : b < 8) : (keptZ b == 1) = true ↔ ((b / 4 % 2 = 1) ∧ ¬ (b / 1 % 2 = 1 ∧ ¬ b / 2 % 2 = 1)) ∨ (b / 2 % 2 = 1 ∧ ¬ b / 1 % 2 = 1) := by
  have : b = 0 ∨ b = 1 ∨ b = 2 ∨ b = 3 ∨ b = 4 ∨ b = 5 ∨ b = 6 ∨ b = 7 := by omega
  rcases this with rfl | rfl | rfl | rfl | rfl | rfl | rfl | rfl <;> decide
theorem voted_iff {b : Int} (h0 : 0 ≤ b) (h8 : b < 8) : (votedZ b == 1) = true ↔ ((b / 4 % 2 = 1) ∧ ¬ (b / 1 % 2 = 1 ∧ ¬ b / 2 % 2 = 1)) ∨ (b / 2 % 2 = 1 ∧ ¬ b / 1 % 2 = 1) := by
  have : b = 0 ∨ b = 1 ∨ b = 2 ∨ b = 3 ∨ b = 4 ∨ b = 5 ∨ b = 6 ∨ b = 7 := by omega
  rcases this with rfl | rfl | rfl | rfl | rfl | rfl | rfl | rfl <;> decide
/-- the reader's run inside a token -/
def mgo : St → Str → Bool → List Nat → Option (St × Str × Bool)
  | st, tk, q, [] => some (st, tk, q)
  | .S, tk, q, c :: l => if c = 45 ∨ c = 43 then mgo .A ⟨#[c]⟩ q l else if c = 39 then mgo .Q tk q l else none
  | .A, tk, q, c :: l => if c = 32 then none else if c = 97 then mgo .A (tk ++ "a") q l else if c = 39 then mgo .Q tk q l else if c = 34 then mgo .D tk q l else none
  | .Q, tk, _, c :: l => if c = 39 then mgo .A tk true l else if c = 45 ∨ c = 43 ∨ c = 97 ∨ c = 32 then mgo .Q (tk ++ ⟨#[c]⟩) true l else none
  | .D, tk, _, c :: l => if c = 34 then mgo .A tk true l else if c = 39 then mgo .D (tk ++ ⟨#[c]⟩) true l else none
  | .N, _, _, _ :: _ => none
theorem mgo_run : ∀ (l : List Nat) (st : St) (tk : Str) (q : Bool) (r : List Nat) (st' : St) (tk' : Str) (q' : Bool), mgo st tk q l = some (st', tk', q') → mrun st tk q (l ++ r) = mrun st' tk' q' r
  | [], st, tk, q, r, st', tk', q', h => by cases st <;> (simp only [mgo] at h; cases h; rfl)
  | c :: l, st, tk, q, r, st', tk', q', h => by
    rw [List.cons_append]
    cases st <;> simp only [mgo, mrun] at h ⊢
    · split at h
      · rename_i hc; rw [if_pos hc]; exact mgo_run l _ _ _ r _ _ _ h
      · rename_i hc; rw [if_neg hc]
        split at h
        · rename_i hc; rw [if_pos hc]; exact mgo_run l _ _ _ r _ _ _ h
        · cases h
    · split at h
      · cases h
      · rename_i hc; rw [if_neg hc]
        split at h
        · rename_i hc; rw [if_pos hc]; exact mgo_run l _ _ _ r _ _ _ h
        · rename_i hc; rw [if_neg hc]
          split at h
          · rename_i hc; rw [if_pos hc]; exact mgo_run l _ _ _ r _ _ _ h
          · rename_i hc; rw [if_neg hc]
            split at h
            · rename_i hc; rw [if_pos hc]; exact mgo_run l _ _ _ r _ _ _ h
            · cases h
    · split at h
      · rename_i hc; rw [if_pos hc]; exact mgo_run l _ _ _ r _ _ _ h
      · rename_i hc; rw [if_neg hc]
        split at h
        · rename_i hc; rw [if_pos hc]; exact mgo_run l _ _ _ r _ _ _ h
        · cases h
    · split at h
      · rename_i hc; rw [if_pos hc]; exact mgo_run l _ _ _ r _ _ _ h
      · rename_i hc; rw [if_neg hc]
        split at h
        · rename_i hc; rw [if_pos hc]; exact mgo_run l _ _ _ r _ _ _ h
        · cases h
    · cases h
theorem toks_go : (toks18.all fun x => decide ((mgo .S "" false (qt x).cps.toList).map (fun r => (r.1, r.2.1)) = some (.A, x)) && decide (x.length ≠ 0)) = true := by decide +kernel
theorem tok_go {x : Str} (hx : x ∈ toks18) : (∃ q, mgo .S "" false (qt x).cps.toList = some (.A, x, q)) ∧ x ≠ "" ∧ ((x.length : Int) != 0) = true := by
  have := List.all_eq_true.mp toks_go x hx
  rw [Bool.and_eq_true, decide_eq_true_eq, decide_eq_true_eq] at this
  obtain ⟨⟨a, b, q⟩, e, e'⟩ := Option.map_eq_some_iff.mp this.1
  simp only [Prod.mk.injEq] at e'
  obtain ⟨rfl, rfl⟩ := e'
  refine ⟨⟨q, e⟩, fun q => this.2 (by rw [q]; rfl), ?_⟩
  have := this.2
  rw [bne_iff_ne]; omega
theorem reads_join : ∀ (ts : List Str), (∀ x ∈ ts, x ∈ toks18) → Reads .S (Str.join " " (ts.map qt)).cps.toList ts
  | [], _ => .done (res := (.N, "", false, [])) rfl ⟨rfl, rfl⟩
  | [x], h => by
    obtain ⟨⟨q, e⟩, hne, _⟩ := tok_go (h x List.mem_cons_self)
    have := mgo_run _ _ _ _ [] _ _ _ e
    rw [List.append_nil] at this
    exact .more (res := (.N, x, q, [])) this (fun z => hne z.2) (.done (res := (.N, "", false, [])) rfl ⟨rfl, rfl⟩)
  | x :: y :: ts, h => by
    obtain ⟨⟨q, e⟩, hne, hl⟩ := tok_go (h x List.mem_cons_self)
    have ih := reads_join (y :: ts) fun z hz => h z (List.mem_cons_of_mem _ hz)
    have hj : (Str.join " " ((x :: y :: ts).map qt)).cps.toList = (qt x).cps.toList ++ 32 :: (Str.join " " ((y :: ts).map qt)).cps.toList := by
      show ((qt x).cps ++ #[32] ++ (Str.join " " ((y :: ts).map qt)).cps).toList = _
      simp
    rw [hj]
    have := mgo_run _ _ _ _ (32 :: (Str.join " " ((y :: ts).map qt)).cps.toList) _ _ _ e
    refine .more (res := (.S, x, q, (Str.join " " ((y :: ts).map qt)).cps.toList)) (this.trans ?_) (fun z => hne z.2) ih
    simp only [mrun, if_pos, hl]
theorem told_toks {a b : List Str} (ha : InW a) (hb : InW b) : ∀ x ∈ (toldOf a b).map chg, x ∈ toks18 := by
  intro x hx
  rw [toldOf_map] at hx
  rcases List.mem_append.mp hx with h | h
  · obtain ⟨z, hz, rfl⟩ := List.mem_map.mp h; exact List.mem_append_left _ (List.mem_map_of_mem (ha z (mem_gone.mp hz).1))
  · obtain ⟨z, hz, rfl⟩ := List.mem_map.mp h; exact List.mem_append_right _ (List.mem_map_of_mem (hb z (mem_gone.mp hz).1))
theorem join_le (P : Params) : ∀ (ts : List Str), (∀ x ∈ ts, x ∈ toks18) → (Str.join " " (ts.map qt)).length ≤ ts.length * 41
  | [], _ => by decide
  | [x], h => by
    have := (tok_fact (P := P) (h x List.mem_cons_self)).2.2.2
    show (qt x).length ≤ 1 * 41
    omega
  | x :: y :: ts, h => by
    have := (tok_fact (P := P) (h x List.mem_cons_self)).2.2.2
    have ih := join_le P (y :: ts) fun z hz => h z (List.mem_cons_of_mem _ hz)
    show ((qt x) ++ " " ++ Str.join " " ((y :: ts).map qt)).length ≤ _
    rw [Str.length_append, Str.length_append]
    have e : ((" " : String) : Str).length = 1 := by decide +kernel
    rw [e]
    simp only [List.length_cons] at ih ⊢
    omega
def UpJ (S : List Addr) (h h' : Heap) : Prop := ∀ b o, b ≠ 766 → h.get? b = some o → (b ∉ S → h'.get? b = some o) ∧ ∃ sl, h'.get? b = some { o with slots := sl }
theorem upF_of {S : List Addr} {h h' : Heap} {l : List Env} (hS : S = fSet l) (hf : ∀ b ∈ S, ∃ o, h.get? b = some o ∧ ∀ vs, o.data ≠ .fields vs) (kn : KN S h h') (st : (hideAll h S).StaysIn h') : UpF S h h' := fun b o e => by
  by_cases hb : b ∈ S
  · refine ⟨fun n => absurd hb n, ?_⟩
    obtain ⟨o', ho', hnf⟩ := hf b hb
    rw [e] at ho'; cases ho'
    exact (kn b o e hnf).2
  · have := st b o (hideAll_get _ e hb)
    exact ⟨fun _ => this, o.slots, this⟩
theorem UpF.jt {S : List Addr} {h h' : Heap} (x : UpF S h h') (hS : ∀ b ∈ S, 838 ≤ b) (jt : JT h) : JT h' :=
  jt.at2 (fun o e => (x 770 o e).1 fun q => absurd (hS _ q) (by decide)) fun o e => (x 766 o e).1 fun q => absurd (hS _ q) (by decide)
theorem UpF.bm {S : List Addr} {h h' : Heap} (x : UpF S h h') (hS : ∀ b ∈ S, 838 ≤ b) (bm : BM h) : BM h' := bm.at' fun o e => (x 4 o e).1 fun q => absurd (hS _ q) (by decide)
theorem JT.neS {h : Heap} {a : Addr} {ss : List Str} (jt : JT h) (s : SL h a ss) : a ≠ 766 := by
  rintro rfl
  obtain ⟨ps, _, ta⟩ := jt
  obtain ⟨vs, ⟨o, ho, hc, _⟩, _⟩ := s
  rw [ta.2] at ho; cases ho; cases hc
theorem JT.neN {h : Heap} {a : Addr} {m : Str → Option Value} (jt : JT h) (s : h.Ns a m) : a ≠ 766 := by
  rintro rfl
  obtain ⟨ps, _, ta⟩ := jt
  obtain ⟨o, es, ep, ho, hd, _⟩ := s
  rw [ta.2] at ho; cases ho; cases hd
theorem UpJ.sl {S : List Addr} {h h' : Heap} {a : Addr} {ss : List Str} (x : UpJ S h h') (jt : JT h) (s : SL h a ss) : SL h' a ss := by
  have n := jt.neS s
  obtain ⟨vs, ⟨o, ho, r⟩, q⟩ := s
  obtain ⟨_, sl, e⟩ := x a o n ho
  exact ⟨vs, ⟨_, e, r⟩, q⟩
theorem UpJ.ns {S : List Addr} {h h' : Heap} {a : Addr} {m : Str → Option Value} (x : UpJ S h h') (jt : JT h) (s : h.Ns a m) : h'.Ns a m := by
  have n := jt.neN s
  obtain ⟨o, es, ep, ho, r⟩ := s
  obtain ⟨_, sl, e⟩ := x a o n ho
  exact ⟨_, es, ep, e, r⟩
theorem UpJ.ok {S : List Addr} {w : World} {h h' : Heap} (x : UpJ S h h') (hS : ∀ b ∈ S, 838 ≤ b) (ok : Ok w h) : Ok w h' := by
  have k : ∀ b o, b < 838 → b ≠ 766 → h.get? b = some o → h'.get? b = some o := fun b o hb n e => (x b o n e).1 fun q => absurd (hS b q) (Nat.not_le.mpr hb)
  have q : (KK pw w.params).lookup 766 = none := by kernel_rfl!
  have hK : (KK pw w.params).In h' := by
    intro a o e
    exact k a o (lookup_all (KK pw w.params) a o (fun p hp => List.all_eq_true.mp (KK_low w.params) p hp) e) (fun r => by rw [r, q] at e; cases e) (ok.K a o e)
  refine ⟨hK, ?_, ?_⟩
  · obtain ⟨mc, ⟨o, es, ep, ho, r⟩, q⟩ := ok.lim
    exact ⟨mc, ⟨o, es, ep, k cStatics o (show (2 : Nat) < 838 by decide) (show (2 : Nat) ≠ 766 by decide) ho, r⟩, q⟩
  · obtain ⟨mb, ⟨o, es, ep, ho, r⟩, q⟩ := ok.blt
    exact ⟨mb, ⟨o, es, ep, k builtinsNs o (show (0 : Nat) < 838 by decide) (show (0 : Nat) ≠ 766 by decide) ho, r⟩, q⟩
theorem UpJ.bm {S : List Addr} {h h' : Heap} (x : UpJ S h h') (hS : ∀ b ∈ S, 838 ≤ b) (bm : BM h) : BM h' := bm.at' fun o e => (x 4 o (by decide) e).1 fun q => absurd (hS _ q) (by decide)
theorem UpJ.frames {S : List Addr} {h h' base : Heap} {fs : List Env} (x : UpJ S h h') (hl : h.FunFrames base fs) (hS : ∀ b ∈ fSet fs, b ≠ 766) : h'.FunFrames base fs := by
  induction fs with
  | nil => trivial
  | cons env fs ih =>
    obtain ⟨hk, ⟨L, o, hf, hn, ho, hd⟩, hr⟩ := hl
    have hL : L ∈ fSet (env :: fs) := by show L ∈ List.filterMap _ _; rw [List.filterMap_cons, hf]; exact List.mem_cons_self
    obtain ⟨_, sl, e⟩ := x L o (hS L hL) ho
    exact ⟨hk, ⟨L, _, hf, hn, e, hd⟩, ih hr fun b hb => hS b (by show b ∈ List.filterMap _ _; rw [List.filterMap_cons, hf]; exact List.mem_cons_of_mem _ hb)⟩
theorem inW_len {l : List Str} (hw : InW l) (hr : Rise l) : l.length ≤ 9 := nodup_le (m := words) hr.nodup hw
section
variable {w : World} {A : Around} {E : Value → Shared → Prop} {h : Heap} {g : Array GenState} {d : Drawn} {k : Nat} {os : OsState}
theorem filter_all {l : List Str} : l.filter (fun _ => true) = l := List.filter_eq_self.mpr fun _ _ => rfl
theorem words_len {y : Str} (h : y ∈ words) : y.length ≤ 9 := by
  have : ∀ y ∈ words, y.length ≤ 9 := by decide +kernel
  exact this y h
abbrev lrEnv (L : Addr) : Env := envOf (("_law_read" : String) : Str) (oScope (oSt pw 37)) L 808 (.ref 807)
theorem lread_spec {a b : Addr} {old new : List Str} {outer : List Env} (hd : A.depth + 16 < recursionLimit) (hh : A.handled = none) (K : Below A ({} : Heap) outer h) (hS : ∀ b ∈ fSet outer, 838 ≤ b) (ok : Ok w h) (bm : BM h) (jt : JT h) (ab : AllBare g)
    (ha : SL h a old) (hb : SL h b new) (ro : Rise old) (rn : Rise new) (wo : InW old) (wn : InW new) :
    wpAny (MM w) A (call (.ref 808) [.ref a, .ref b]) (fun v s' => ∃ r h' g' d' k', v = .ref r ∧ s' = ⟨h', g', d', k', os⟩ ∧ AllBare g' ∧ JT h' ∧ SL h' r ((toldOf old new).map chg) ∧ UpJ (fSet outer) h h') E ⟨h, g, d, k, os⟩ := by
  refine callF' (nm := "_law_read") (dd := oSt pw 37) (pm := .str "law_oc0270_01" 1299) (c := 807) (binds := [("old", .ref a), ("new", .ref b)]) ok (a808 ok) (c807 ok) (by omega) (by kernel_rfl!) (by kernel_rfl!) (fun h₁ k₁ F => ?_) (by kernel_rfl!)
  have hL : 838 ≤ h.objs.size := Heap.lt_size (a837 ok)
  have ne : ∀ b o, h.get? b = some o → b ≠ h.objs.size := fun b o e q => by rw [q, fresh_none] at e; cases e
  have K1 := K.push (name := (("_law_read" : String) : Str)) (scope := oScope (oSt pw 37)) (a := 808) (cd := .ref 807) F (by kernel_rfl!)
  have hS1 : ∀ b ∈ fSet (lrEnv h.objs.size :: outer), 838 ≤ b := fun b hb => (List.mem_cons.mp hb).elim (fun q => by rw [q]; exact hL) (hS b)
  have ok1 := ok.fr F
  have lo := inW_len wo ro
  have ln := inW_len wn rn
  refine wpAny_execs_cons ?_
  refine Assign_Tuple ?_ (by with_unfolding_all rfl) (by with_unfolding_all rfl)
  repeat walk_at "gg"
  refine cwF (ob786 pw w.params) (by with_unfolding_all rfl) ?_
  repeat walk_at "gg"
  refine ⟨⟨a786 ok1, rfl⟩, ?_⟩
  have hin : ∀ en ∈ lrEnv h.objs.size :: outer, ∀ a, en.frame = some a → a ∈ fSet (lrEnv h.objs.size :: outer) := fun en he a ea => List.mem_filterMap.mpr ⟨en, he, ea⟩
  have okb : Ok w (hideAll h₁ (fSet (lrEnv h.objs.size :: outer))) := ok1.off fun b o hb e => hideAll_get _ e fun q => absurd (hS1 b q) (Nat.not_le.mpr hb)
  refine wpAny_mono (sld_spec (A := A.deeper _) (base := hideAll h₁ (fSet (lrEnv h.objs.size :: outer))) (outer := lrEnv h.objs.size :: outer) (by show A.depth + 1 < _; omega) okb hh ⟨K1.stack, fun b o q => of_hideAll _ q, funFrames_hide K1.frames hin⟩ (Nat.le_of_eq (hideAll_size _ _)) (ha.keep F.keep) (hb.keep F.keep) (by omega) (by omega) ro.nodup rn.nodup) (fun v s' hv => ?_) (fun _ _ e => e)
  obtain ⟨r, h₂, k₂, rm, ru, rfl, rfl, hr, hm, hu, kn, st⟩ := hv
  have up2 : UpF (fSet (lrEnv h.objs.size :: outer)) h₁ h₂ := upF_of rfl (fun b hb => (K1.frames.mem hb).2) kn st
  rw [diff_gone ro rn wo wn] at hm hu
  dsimp only at hm hu
  have ns2 := up2.ns F.ns
  have ok2 := up2.ok ok1 hS1
  refine assign_Tuple_tuple hh ⟨_, hr, rfl, 0, rfl⟩ (by with_unfolding_all rfl) (by with_unfolding_all rfl) (fun h₃ he₃ => ?_)
  have kk3 : ∀ b o, h₂.get? b = some o → h₃.get? b = some o := fun b o e => he₃ b o (Nat.ne_of_lt (Heap.lt_size e)) e
  have F3 : Fr ({} : Heap) h.objs.size h₃ _ := ⟨ns2.keeps kk3, fun b o q => by simp [Heap.get?] at q, Nat.zero_le _⟩
  have hm3 := hm.keep kk3
  have hu3 := hu.keep kk3
  have rmL : rm ≠ h.objs.size := by
    rintro rfl; obtain ⟨vs, ⟨o, ho, hc, n, hdd⟩, _⟩ := hm; obtain ⟨o', es, ep, ho', hd', _⟩ := ns2; rw [ho] at ho'; cases ho'; rw [hdd] at hd'; cases hd'
  have ruL : ru ≠ h.objs.size := by
    rintro rfl; obtain ⟨vs, ⟨o, ho, hc, n, hdd⟩, _⟩ := hu; obtain ⟨o', es, ep, ho', hd', _⟩ := ns2; rw [ho] at ho'; cases ho'; rw [hdd] at hd'; cases hd'
  refine assignInOrder_cons (wpAny_assign_Name (rSt F3 (fun h₄ k₄ F4 kk4 => ?_) (by kernel_rfl!) (by kernel_rfl!)))
  refine assignInOrder_cons (wpAny_assign_Name (rSt F4 (fun h₅ k₅ F5 kk5 => ?_) (by kernel_rfl!) (by kernel_rfl!)))
  refine assignInOrder_nil ?_
  have kk35 : ∀ b o, b ≠ h.objs.size → h₂.get? b = some o → h₅.get? b = some o := fun b o n e => kk5 b o (kk4 b o (kk3 b o e) n) n
  have hm5 : SL h₅ rm (gone old new) := let ⟨vs, a, q⟩ := hm; ⟨vs, isl a fun o => kk35 _ o rmL, q⟩
  have hu5 : SL h₅ ru (gone new old) := let ⟨vs, a, q⟩ := hu; ⟨vs, isl a fun o => kk35 _ o ruL, q⟩
  have ok5 : Ok w h₅ := ok2.set hL kk35
  have K5 : Below (A.deeper (lrEnv h.objs.size)) ({} : Heap) (lrEnv h.objs.size :: outer) h₅ := by
    obtain ⟨a1, a2, a3, a4, a5⟩ := K1
    refine ⟨a1, fun b o q => by simp [Heap.get?] at q, a3, ?_, frames_at (up2.frames a5) fun b hb o e => kk35 b o ?_ e⟩
    · obtain ⟨o, es, ep, ho, hdd, _⟩ := F5.ns
      exact ⟨h.objs.size, o, rfl, by simp [Heap.get?], ho, fun vs q => by rw [hdd] at q; cases q⟩
    · obtain ⟨_, o', ho', _⟩ := K.frames.mem hb
      exact ne b o' ho'
  have bm5 : BM h₅ := (up2.bm hS1 (bm.at' fun o => F.keep _ o)).at' fun o => kk35 _ o (Nat.ne_of_lt (Nat.lt_of_lt_of_le (by decide) hL))
  have jt5 : JT h₅ := (up2.jt hS1 (jt.keep F.keep)).at2 (fun o => kk35 _ o (Nat.ne_of_lt (Nat.lt_of_lt_of_le (by decide) hL))) fun o => kk35 _ o (Nat.ne_of_lt (Nat.lt_of_lt_of_le (by decide) hL))
  clear ok1 ok2 F3 F4 hm hu hm3 hu3
  obtain ⟨gs, gl, gI⟩ := id hm5
  obtain ⟨cs, cl, cI⟩ := id hu5
  have gll := gI.length
  have cll := cI.length
  have wg : InW (gone old new) := fun y hy => wo y (mem_gone.mp hy).1
  have wc : InW (gone new old) := fun y hy => wn y (mem_gone.mp hy).1
  have l1 : (gone old new).length ≤ 9 := Nat.le_trans (List.length_filter_le _ _) lo
  have l2 : (gone new old).length ≤ 9 := Nat.le_trans (List.length_filter_le _ _) ln
  repeat walk_at "gg"
  refine cwF (ob764 pw w.params) (by with_unfolding_all rfl) ?_
  repeat walk_at "gg"
  refine cwF (ob771 pw w.params) (by with_unfolding_all rfl) ?_
  repeat walk_at "gg"
  refine rCompS (cl := []) (ax := rm) (fun _ => true) minus hh (by kernel_rfl!) (by kernel_rfl!) (fun Q E q => ld F5 (by walk_at "lk") q (by kernel_rfl!) (by kernel_rfl!) (by decide +kernel)) gl gI (by rw [sizeLine_eq]; omega) ?_ ?_ ?_ (fun _ => by kernel_rfl!)
  · intro C y u h' g' d' k' os' m E' hy hC hn hm hk
    simp only [List.forIn_nil]
    exact wpAny_pure ⟨rfl, kps fun _ _ e => e⟩
  · intro C y u h' g' d' k' os' m E' hy hp hC hn hm hk
    repeat walk_at "gg"
    refine ldN hn hm ?_ (by kernel_rfl!) (by kernel_rfl!) (by decide +kernel)
    refine rAddS (by have := words_len (wg y hy); rw [sizeLine_eq]; show 1 + _ ≤ _; omega) (fun _ _ => ?_)
    exact ⟨⟨_, rfl⟩, kps fun _ _ e => e⟩
  · intro D h₆ k₆ ys hD hpl hSS hk6
    rw [filter_all] at hSS
    have F6 := F5.kept hk6
    obtain ⟨cs6, cl6, cI6⟩ := hu5.keep hk6
    refine rCompS (cl := []) (ax := ru) (fun _ => true) plus hh (by kernel_rfl!) (by kernel_rfl!) (fun Q E q => ld F6 (by walk_at "lk") q (by kernel_rfl!) (by kernel_rfl!) (by decide +kernel)) cl6 cI6 (by have := cI6.length; rw [sizeLine_eq]; omega) ?_ ?_ ?_ (fun _ => by kernel_rfl!)
    · intro C y u h' g' d' k' os' m E' hy hC hn hm hk
      simp only [List.forIn_nil]
      exact wpAny_pure ⟨rfl, kps fun _ _ e => e⟩
    · intro C y u h' g' d' k' os' m E' hy hp hC hn hm hk
      repeat walk_at "gg"
      refine ldN hn hm ?_ (by kernel_rfl!) (by kernel_rfl!) (by decide +kernel)
      refine rAddS (by have := words_len (wc y hy); rw [sizeLine_eq]; show 1 + _ ≤ _; omega) (fun _ _ => ?_)
      exact ⟨⟨_, rfl⟩, kps fun _ _ e => e⟩
    · intro D' h₇ k₇ ys' hD' hpl' hSS' hk7
      rw [filter_all] at hSS'
      refine rAddL (SL.keep ⟨ys, hpl.isList, hSS⟩ hk7) ⟨ys', hpl'.isList, hSS'⟩ (by simp only [List.length_map]; rw [sizeLine_eq]; omega) fun r₈ h₈ hr8 hr82 hl8 hk8 => ?_
      rw [← toldOf_map] at hl8
      have kk58 : ∀ b o, h₅.get? b = some o → h₈.get? b = some o := fun b o e => hk8 _ _ (hk7 _ _ (hk6 _ _ e))
      have ok8 := ok5.keeps kk58
      have tl : ((toldOf old new).map chg).length ≤ 18 := by rw [List.length_map]; have := told_len old new; omega
      have tt := told_toks wo wn
      repeat walk_at "gg"
      refine ⟨⟨a771 ok8, rfl⟩, ?_⟩
      refine wpAny_mono (join_spec (by show A.depth + 1 + 3 < _; omega) hh ok8 (bm5.at' fun o => kk58 _ o) (jt5.keep kk58) ab hl8 tt (by omega)) (fun v s' hv => ?_) (fun _ _ e => e)
      obtain ⟨u, h₉, g₉, d₉, k₉, rfl, rfl, ab9, jt9, kk9⟩ := hv
      have ok9 := ok8.but kk9
      repeat walk_at "gg"
      refine ⟨⟨a764 ok9, rfl⟩, ?_⟩
      have n766 : ∀ b, b ∈ fSet (lrEnv h.objs.size :: outer) → b ≠ 766 := fun b hb q => absurd (hS1 b hb) (by rw [q]; decide)
      have K9 : Below (A.deeper (lrEnv h.objs.size)) ({} : Heap) (lrEnv h.objs.size :: outer) h₉ := below_at K5 fun b hb o e => kk9 b o (n766 b hb) (kk58 b o e)
      have jl := join_le w.params _ tt
      refine wpAny_mono (split_spec (by show A.depth + 1 + 14 < _; omega) hh K9 ok9 (Nat.le_trans jl (by omega)) (reads_join _ tt) (by omega)) (fun v s' hv => ?_) (fun _ _ e => e)
      obtain ⟨r, h', k', rfl, rfl, hsl, up⟩ := hv
      refine ⟨r, h', g₉, d₉, k', rfl, rfl, ab9, up.jt hS1 jt9, hsl, fun b o n e => ?_⟩
      have nb := ne b o e
      obtain ⟨x1, sl, x2⟩ := up2 b o (F.keep b o e)
      have kk29 : ∀ o, h₂.get? b = some o → h₉.get? b = some o := fun o q => kk9 b o n (kk58 b o (kk35 b o nb q))
      refine ⟨fun hb => (up b o (kk29 o (x1 fun hm => (List.mem_cons.mp hm).elim nb hb))).1 fun hm => (List.mem_cons.mp hm).elim nb hb, ?_⟩
      obtain ⟨_, sl2, x3⟩ := up b _ (kk29 _ x2)
      exact ⟨sl2, x3⟩
end
abbrev lawSc : Scope := oScope (oSt pw 42)
abbrev lawEnv (L : Addr) : Env := envOfC (("law" : String) : Str) (oScope (oSt pw 42)) L 837 (.ref 836)
abbrev lawCs (L : Addr) : List (Str × Addr) := cellsFrom (L + 1) (oScope (oSt pw 42)).names []
theorem SL.offNs {h h' : Heap} {a L : Addr} {ss : List Str} {m : Str → Option Value} (s : SL h a ss) (n : h.Ns L m) (k : ∀ b o, h.get? b = some o → b ≠ L → h'.get? b = some o) : SL h' a ss := by
  obtain ⟨vs, ⟨o, ho, hc, q, hd⟩, r⟩ := s
  refine ⟨vs, ⟨o, k a o ho ?_, hc, q, hd⟩, r⟩
  rintro rfl
  obtain ⟨o', es, ep, ho', hd', _⟩ := n
  rw [ho] at ho'; cases ho'; rw [hd] at hd'; cases hd'
theorem SL.offCell {h h' : Heap} {a c : Addr} {ss : List Str} {v : Option Value} (s : SL h a ss) (n : h.IsCell c v) (k : ∀ b o, h.get? b = some o → b ≠ c → h'.get? b = some o) : SL h' a ss := by
  obtain ⟨vs, ⟨o, ho, hc, q, hd⟩, r⟩ := s
  refine ⟨vs, ⟨o, k a o ho ?_, hc, q, hd⟩, r⟩
  rintro rfl
  obtain ⟨o', ho', hd'⟩ := n
  rw [ho] at ho'; cases ho'; rw [hd] at hd'; cases hd'
theorem Tab.off {w : World} {h h' : Heap} {ax : Addr} {ks : List Str} {b : Str → Int} (x : Tab w h ax ks b) (k : ∀ o, h.get? ax = some o → h'.get? ax = some o) : Tab w h' ax ks b :=
  ⟨let ⟨kvs, ep, a, r⟩ := x.at'; ⟨kvs, ep, a.at' k, r⟩, x.rng, x.wd, x.nm⟩
/-- the law's own state: its frame, its cells, the table and the lists made so far -/
structure LS (w : World) (h₀ h : Heap) (L : Addr) (m cm : Str → Option Value) (rt : Addr) (ks : List Str) (b : Str → Int) (ls : List (Addr × List Str)) : Prop where
  F : Fr ({} : Heap) L h m
  X : Cl L (lawCs L) h cm
  ok : Ok w h
  jt : JT h
  bm : BM h
  T : Tab w h rt ks b
  rtL : rt ≠ L ∧ L ≤ rt
  ls : ∀ p ∈ ls, SL h p.1 p.2
  kp : ∀ b o, b ≠ 766 → h₀.get? b = some o → h.get? b = some o
  L0 : h₀.objs.size = L
  Lge : 838 ≤ L
section
variable {w : World} {h₀ h h' : Heap} {L rt : Addr} {m cm : Str → Option Value} {ks : List Str} {b : Str → Int} {ls : List (Addr × List Str)}
theorem LS.keep (S : LS w h₀ h L m cm rt ks b ls) (k : ∀ b o, h.get? b = some o → h'.get? b = some o) : LS w h₀ h' L m cm rt ks b ls :=
  ⟨⟨S.F.ns.keeps k, fun b o q => by simp [Heap.get?] at q, Nat.zero_le _⟩, S.X.keeps k, S.ok.keeps k, S.jt.keep k, S.bm.at' fun o => k _ o, S.T.keep k, S.rtL, fun p hp => (S.ls p hp).keep k, fun b o n e => k b o (S.kp b o n e), S.L0, S.Lge⟩
theorem LS.add {r : Addr} {ss : List Str} (S : LS w h₀ h L m cm rt ks b ls) (s : SL h r ss) : LS w h₀ h L m cm rt ks b ((r, ss) :: ls) :=
  ⟨S.F, S.X, S.ok, S.jt, S.bm, S.T, S.rtL, fun p hp => (List.mem_cons.mp hp).elim (fun e => by rw [e]; exact s) (S.ls p), S.kp, S.L0, S.Lge⟩
theorem LS.stL {m' : Str → Option Value} (S : LS w h₀ h L m cm rt ks b ls) (F : Fr ({} : Heap) L h' m') (X : Cl L (lawCs L) h' cm) (k : ∀ b o, h.get? b = some o → b ≠ L → h'.get? b = some o) : LS w h₀ h' L m' cm rt ks b ls := by
  have k' : ∀ b o, b ≠ L → h.get? b = some o → h'.get? b = some o := fun b o n e => k b o e n
  have lo : ∀ b : Addr, b < 838 → b ≠ L := fun b hb => Nat.ne_of_lt (Nat.lt_of_lt_of_le hb S.Lge)
  refine ⟨F, X, S.ok.set S.Lge k', S.jt.at2 (fun o => k' _ o (lo _ (by decide))) fun o => k' _ o (lo _ (by decide)), S.bm.at' fun o => k' _ o (lo _ (by decide)), S.T.off fun o => k' _ o S.rtL.1, S.rtL, fun p hp => (S.ls p hp).offNs S.F.ns k, fun b o n e => k' b o ?_ (S.kp b o n e), S.L0, S.Lge⟩
  exact Nat.ne_of_lt (by have := Heap.lt_size e; rwa [S.L0] at this)
theorem LS.stC {cm' : Str → Option Value} {c : Addr} {n : Str} (S : LS w h₀ h L m cm rt ks b ls) (hc : (lawCs L).lookup n = some c) (F : Fr ({} : Heap) L h' m) (X : Cl L (lawCs L) h' cm') (k : ∀ b o, h.get? b = some o → b ≠ c → h'.get? b = some o) : LS w h₀ h' L m cm' rt ks b ls := by
  have hLc : L < c := S.X.above n c (mem_of_lookup hc)
  have k' : ∀ b o, b ≠ c → h.get? b = some o → h'.get? b = some o := fun b o n e => k b o e n
  have lo : ∀ b : Addr, b < 838 → b ≠ c := fun b hb => Nat.ne_of_lt (Nat.lt_trans (Nat.lt_of_lt_of_le hb S.Lge) hLc)
  have rc : rt ≠ c := by
    rintro rfl
    obtain ⟨o, ho, hd⟩ := S.X.cell n _ hc
    obtain ⟨kvs, ep, ⟨o', es, ho', q⟩, _⟩ := S.T.at'
    rw [ho] at ho'; cases ho'
    have := q.1
    simp_all
  refine ⟨F, X, S.ok.set (Nat.le_of_lt (Nat.lt_of_le_of_lt S.Lge hLc)) k', S.jt.at2 (fun o => k' _ o (lo _ (by decide))) fun o => k' _ o (lo _ (by decide)), S.bm.at' fun o => k' _ o (lo _ (by decide)), S.T.off fun o => k' _ o rc, S.rtL, fun p hp => (S.ls p hp).offCell (S.X.cell n c hc) k, fun b o n e => k' b o ?_ (S.kp b o n e), S.L0, S.Lge⟩
  exact Nat.ne_of_lt (Nat.lt_trans (by have := Heap.lt_size e; rwa [S.L0] at this) hLc)
theorem LS.upJ (S : LS w h₀ h L m cm rt ks b ls) (x : UpJ [L] h h') (jt : JT h') : LS w h₀ h' L m cm rt ks b ls := by
  have hS : ∀ b ∈ [L], 838 ≤ b := fun b hb => by rw [List.mem_singleton.mp hb]; exact S.Lge
  have k : ∀ b o, b ≠ L → b ≠ 766 → h.get? b = some o → h'.get? b = some o := fun b o n1 n2 e => (x b o n2 e).1 fun q => n1 (List.mem_singleton.mp q)
  have hi : ∀ c : Addr, L ≤ c → c ≠ 766 := fun c hc q => absurd (Nat.le_trans S.Lge hc) (by rw [q]; decide)
  refine ⟨⟨x.ns S.jt S.F.ns, fun b o q => by simp [Heap.get?] at q, Nat.zero_le _⟩, ⟨fun n c e => ?_, S.X.apart, S.X.above⟩, x.ok hS S.ok, jt, x.bm hS S.bm, S.T.off fun o => k _ o S.rtL.1 (hi _ S.rtL.2), S.rtL, fun p hp => x.sl S.jt (S.ls p hp), fun b o n e => k b o ?_ n (S.kp b o n e), S.L0, S.Lge⟩
  · obtain ⟨o, ho, hd⟩ := S.X.cell n c e
    have hLc : L < c := S.X.above n c (mem_of_lookup e)
    exact ⟨o, k c o (Nat.ne_of_gt hLc) (hi _ (Nat.le_of_lt hLc)) ho, hd⟩
  · exact Nat.ne_of_lt (by have := Heap.lt_size e; rwa [S.L0] at this)
theorem LS.cv {c : Addr} {n : Str} {v : Value} (S : LS w h₀ h L m cm rt ks b ls) (hc : (lawCs L).lookup n = some c) (hv : cm n = some v) : h.IsCell c (some v) := hv ▸ S.X.cell n c hc
theorem LS.below (S : LS w h₀ h L m cm rt ks b ls) : Below (callerA.deeper (lawEnv L)) ({} : Heap) [lawEnv L] h := by
  have hk : (lawEnv L).scope.kind ≠ .module := by rw [show (lawEnv L).scope.kind = .function by kernel_rfl!]; intro q; cases q
  refine ⟨rfl, fun b o q => by simp [Heap.get?] at q, ⟨hk, ?_, trivial⟩⟩
  obtain ⟨o, es, ep, ho, hdd, _⟩ := S.F.ns
  exact ⟨L, o, rfl, by simp [Heap.get?], ho, fun vs q => by rw [hdd] at q; cases q⟩
end
section
variable {w : World} {A : Around} {E : Value → Shared → Prop} {s : Shared}
theorem eqSL {a b : Addr} {ss : List Str} {Q : Value → Shared → Prop} (ha : SL s.heap a ss) (hb : SL s.heap b ss) (hu : A.units < cLine) (H : Q (.bool true) s) : wpAny (MM w) A (compareOp .Eq (.ref a) (.ref b)) Q E s := by
  obtain ⟨vs, a1, a2⟩ := ha
  obtain ⟨us, b1, b2⟩ := hb
  refine PySem.SeqAt.eq_listAt (e := fun _ => true) a1 b1 (by simp [a2.length, b2.length]) hu (fun j h1 h2 => ?_) (by rw [show ((List.range vs.toArray.size).all fun _ => true) = true from List.all_eq_true.mpr fun _ _ => rfl]; exact H)
  obtain ⟨x, t, e1, e2⟩ := a2.item j _ (show vs[j]? = some (vs.toArray[j]) by simp at h1; simp [h1])
  obtain ⟨y, u, e3, e4⟩ := b2.item j _ (show us[j]? = some (us.toArray[j]) by simp at h2; simp [h2])
  rw [e2] at e4; cases e4
  rw [e1, e3]
  have := PySem.SeqAt.EqAt.str_str (A := A.in1) (s := s) x t x u
  rwa [beq_self_eq_true] at this
theorem neSL {a b : Addr} {ss : List Str} {Q : Value → Shared → Prop} (ha : SL s.heap a ss) (hb : SL s.heap b ss) (hu : A.units < cLine) (H : Q (.bool false) s) : wpAny (MM w) A (compareOp .NotEq (.ref a) (.ref b)) Q E s := by
  obtain ⟨vs, a1, a2⟩ := ha
  obtain ⟨us, b1, b2⟩ := hb
  refine PySem.SeqAt.RcNeAt.lists (e := fun _ => true) a1 b1 (by simp [a2.length, b2.length]) hu (fun j h1 h2 => ?_) pw w E Q (by rw [show ((List.range vs.toArray.size).all fun _ => true) = true from List.all_eq_true.mpr fun _ _ => rfl]; exact H)
  obtain ⟨x, t, e1, e2⟩ := a2.item j _ (show vs[j]? = some (vs.toArray[j]) by simp at h1; simp [h1])
  obtain ⟨y, u, e3, e4⟩ := b2.item j _ (show us[j]? = some (us.toArray[j]) by simp at h2; simp [h2])
  rw [e2] at e4; cases e4
  rw [e1, e3]
  have := PySem.SeqAt.EqAt.str_str (A := A.in1) (s := s) x t x u
  rwa [beq_self_eq_true] at this
end
section
variable {w : World} {E : Value → Shared → Prop} {h : Heap} {g1 : Array GenState} {d1 : Drawn} {k : Nat} {os : OsState}
theorem law_spec {l : Addr} {vs : List Value} {ns : List Int} (ok : Ok w h) (jt : JT h) (bm : BM h) (ab1 : AllBare g1) (hl : h.IsList l vs.toArray) (hI : IntsAre vs ns) (hlen : ns.length ≤ 63) :
    wpAny (MM w) callerA (call (.ref 837) [.ref l]) (fun v s' => v = .bool true ∧ ∃ h' g' d' k', s' = ⟨h', g', d', k', os⟩ ∧ AllBare g' ∧ JT h' ∧ ∀ b o, b ≠ 766 → h.get? b = some o → h'.get? b = some o) E ⟨h, g1, d1, k, os⟩ := by
  refine callC (nm := "law") (dd := oSt pw 42) (pm := .str "law_oc0270_01" 1299) (c := 836) (binds := [("script", .ref l)]) ok (a837 ok) (c836 ok) (by show callerA.depth < recursionLimit; decide +kernel) (by kernel_rfl!) (by
      intro y hy
      simp only [List.mem_cons, List.not_mem_nil, or_false] at hy
      subst hy; exact Or.inl (by kernel_rfl!)) (fun h1 k1 F X => ?_) (by kernel_rfl!)
  have ok1 := ok.fr F
  have F1 : Fr ({} : Heap) h.objs.size h1 _ := ⟨F.ns, fun b o q => by simp [Heap.get?] at q, Nat.zero_le _⟩
  refine wpAny_execs_cons ?_
  repeat walk_at "gg"
  refine cwF (ob798 pw w.params) (by with_unfolding_all rfl) ?_
  repeat walk_at "gg"
  refine ldN F1.ns (by with_unfolding_all rfl) ?_ (by kernel_rfl!) (by kernel_rfl!) (by decide +kernel)
  repeat walk_at "gg"
  refine ⟨⟨a798 ok1, rfl⟩, ?_⟩
  refine wpAny_mono (table_spec (by show callerA.depth + 1 + 1 < recursionLimit; decide +kernel) ok1 rfl (isl hl fun o => F.keep _ o) hI hlen) (fun v s' hv => ?_) (fun _ _ e => e)
  obtain ⟨⟨rt, ks, b, rfl, T2, hrt⟩, h2, k2, rfl, kk2⟩ := hv
  have S2 : LS w h h2 h.objs.size _ _ rt ks b [] := ⟨⟨F1.ns.keeps kk2, fun b o q => by simp [Heap.get?] at q, Nat.zero_le _⟩, X.keeps kk2, ok1.keeps kk2, (jt.keep F.keep).keep kk2, (bm.at' fun o => F.keep _ o).at' fun o => kk2 _ o, T2, ⟨Nat.ne_of_gt (Nat.lt_of_lt_of_le F.ns.lt hrt), Nat.le_of_lt (Nat.lt_of_lt_of_le F.ns.lt hrt)⟩, fun p hp => absurd hp (by simp), fun b o _ e => kk2 b o (F.keep b o e), rfl, Heap.lt_size (a837 ok)⟩
  clear F F1 X ok1 T2 kk2
  have ok2 := S2.ok
  refine rStC S2.F S2.X (c := h.objs.size + 1) (by kernel_rfl!) (fun h3 F3 X3 kk3 => ?_) (by kernel_rfl!) (by kernel_rfl!)
  have S3 := S2.stC (n := "table") (by kernel_rfl!) F3 X3 kk3
  clear F3 X3 kk3 S2 ok2
  have ok3 := S3.ok
  have kn := S3.T.nodup
  have kw := S3.T.wd
  have kr := S3.T.rng
  repeat walk_at "gg"
  refine cwF (ob803 pw w.params) (by with_unfolding_all rfl) ?_
  repeat walk_at "gg"
  refine ldCe (S3.cv (n := "table") (c := h.objs.size + 1) (by kernel_rfl!) (by walk_at "lk")) (by kernel_rfl!) ?_ (by kernel_rfl!) (by kernel_rfl!) (by decide +kernel)
  repeat walk_at "gg"
  refine ⟨⟨a803 ok3, rfl⟩, ?_⟩
  refine wpAny_mono (shelf_spec (by show callerA.depth + 1 < recursionLimit; decide +kernel) ok3 rfl S3.T (by decide) (by decide)) (fun v s' hv => ?_) (fun _ _ e => e)
  obtain ⟨⟨rold, old, rfl, slold, pmold, soold⟩, h4, k4, rfl, kk4⟩ := hv
  have S4 := (S3.keep kk4).add slold
  clear kk4 S3 ok3
  have ok4 := S4.ok
  clear slold
  refine rStL S4.F S4.X (fun h5 k5 F5 X5 kk5 => ?_) (by kernel_rfl!) (by kernel_rfl!)
  have S5 := S4.stL F5 X5 kk5
  clear F5 X5 kk5 S4 ok4
  have ok5 := S5.ok
  repeat walk_at "gg"
  refine cwF (ob803 pw w.params) (by with_unfolding_all rfl) ?_
  repeat walk_at "gg"
  refine ldCe (S5.cv (n := "table") (c := h.objs.size + 1) (by kernel_rfl!) (by walk_at "lk")) (by kernel_rfl!) ?_ (by kernel_rfl!) (by kernel_rfl!) (by decide +kernel)
  repeat walk_at "gg"
  refine ⟨⟨a803 ok5, rfl⟩, ?_⟩
  refine wpAny_mono (shelf_spec (by show callerA.depth + 1 < recursionLimit; decide +kernel) ok5 rfl S5.T (by decide) (by decide)) (fun v s' hv => ?_) (fun _ _ e => e)
  obtain ⟨⟨rmine, mine, rfl, slmine, pmmine, somine⟩, h6, k6, rfl, kk6⟩ := hv
  have S6 := (S5.keep kk6).add slmine
  clear kk6 S5 ok5
  have ok6 := S6.ok
  clear slmine
  refine rStL S6.F S6.X (fun h7 k7 F7 X7 kk7 => ?_) (by kernel_rfl!) (by kernel_rfl!)
  have S7 := S6.stL F7 X7 kk7
  clear F7 X7 kk7 S6 ok6
  have ok7 := S7.ok
  repeat walk_at "gg"
  refine cwF (ob803 pw w.params) (by with_unfolding_all rfl) ?_
  repeat walk_at "gg"
  refine ldCe (S7.cv (n := "table") (c := h.objs.size + 1) (by kernel_rfl!) (by walk_at "lk")) (by kernel_rfl!) ?_ (by kernel_rfl!) (by kernel_rfl!) (by decide +kernel)
  repeat walk_at "gg"
  refine ⟨⟨a803 ok7, rfl⟩, ?_⟩
  refine wpAny_mono (shelf_spec (by show callerA.depth + 1 < recursionLimit; decide +kernel) ok7 rfl S7.T (by decide) (by decide)) (fun v s' hv => ?_) (fun _ _ e => e)
  obtain ⟨⟨ryours, yours, rfl, slyours, pmyours, soyours⟩, h8, k8, rfl, kk8⟩ := hv
  have S8 := (S7.keep kk8).add slyours
  clear kk8 S7 ok7
  have ok8 := S8.ok
  clear slyours
  refine rStL S8.F S8.X (fun h9 k9 F9 X9 kk9 => ?_) (by kernel_rfl!) (by kernel_rfl!)
  have S9 := S8.stL F9 X9 kk9
  clear F9 X9 kk9 S8 ok8
  have ok9 := S9.ok
  have Wold : InW old := fun y hy => kw y (List.mem_filter.mp (pmold.mem_iff.mp hy)).1
  have Rold : Rise old := rise_of Wold (pmold.nodup_iff.mpr (List.Pairwise.filter _ kn)) soold
  have Mold : ∀ y, y ∈ old ↔ y ∈ ks ∧ b y / 1 % 2 = 1 := fun y => by rw [pmold.mem_iff, List.mem_filter]; simp
  have lold := inW_len Wold Rold
  have Wmine : InW mine := fun y hy => kw y (List.mem_filter.mp (pmmine.mem_iff.mp hy)).1
  have Rmine : Rise mine := rise_of Wmine (pmmine.nodup_iff.mpr (List.Pairwise.filter _ kn)) somine
  have Mmine : ∀ y, y ∈ mine ↔ y ∈ ks ∧ b y / 2 % 2 = 1 := fun y => by rw [pmmine.mem_iff, List.mem_filter]; simp
  have lmine := inW_len Wmine Rmine
  have Wyours : InW yours := fun y hy => kw y (List.mem_filter.mp (pmyours.mem_iff.mp hy)).1
  have Ryours : Rise yours := rise_of Wyours (pmyours.nodup_iff.mpr (List.Pairwise.filter _ kn)) soyours
  have Myours : ∀ y, y ∈ yours ↔ y ∈ ks ∧ b y / 4 % 2 = 1 := fun y => by rw [pmyours.mem_iff, List.mem_filter]; simp
  have lyours := inW_len Wyours Ryours
  have ab9 := ab1
  repeat walk_at "gg"
  refine cwF (ob808 pw w.params) (by with_unfolding_all rfl) ?_
  repeat walk_at "gg"
  refine ldN S9.F.ns (by walk_at "lk") ?_ (by kernel_rfl!) (by kernel_rfl!) (by decide +kernel)
  repeat walk_at "gg"
  refine ldN S9.F.ns (by walk_at "lk") ?_ (by kernel_rfl!) (by kernel_rfl!) (by decide +kernel)
  repeat walk_at "gg"
  refine ⟨⟨a808 ok9, rfl⟩, ?_⟩
  refine wpAny_mono (lread_spec (outer := [lawEnv h.objs.size]) (by show callerA.depth + 1 + 16 < recursionLimit; decide +kernel) rfl S9.below (fun b hb => by rw [List.mem_singleton.mp hb]; exact S9.Lge) ok9 S9.bm S9.jt ab9 (S9.ls (rold, old) (by simp)) (S9.ls (rmine, mine) (by simp)) Rold Rmine Wold Wmine) (fun v s' hv => ?_) (fun _ _ e => e)
  obtain ⟨rfirst, h10, g10, d10, k10, rfl, rfl, ab10, jt10, slfirst, up10⟩ := hv
  have S10 := (S9.upJ up10 jt10).add slfirst
  clear up10 jt10 slfirst S9 ok9
  have ok10 := S10.ok
  refine rStC S10.F S10.X (c := h.objs.size + 1 + 1) (by kernel_rfl!) (fun h11 F11 X11 kk11 => ?_) (by kernel_rfl!) (by kernel_rfl!)
  have S11 := S10.stC (n := "first") (by kernel_rfl!) F11 X11 kk11
  clear F11 X11 kk11 S10 ok10
  have ok11 := S11.ok
  have ab11 := ab10
  repeat walk_at "gg"
  refine cwF (ob808 pw w.params) (by with_unfolding_all rfl) ?_
  repeat walk_at "gg"
  refine ldN S11.F.ns (by walk_at "lk") ?_ (by kernel_rfl!) (by kernel_rfl!) (by decide +kernel)
  repeat walk_at "gg"
  refine ldN S11.F.ns (by walk_at "lk") ?_ (by kernel_rfl!) (by kernel_rfl!) (by decide +kernel)
  repeat walk_at "gg"
  refine ⟨⟨a808 ok11, rfl⟩, ?_⟩
  refine wpAny_mono (lread_spec (outer := [lawEnv h.objs.size]) (by show callerA.depth + 1 + 16 < recursionLimit; decide +kernel) rfl S11.below (fun b hb => by rw [List.mem_singleton.mp hb]; exact S11.Lge) ok11 S11.bm S11.jt ab11 (S11.ls (rold, old) (by simp)) (S11.ls (ryours, yours) (by simp)) Rold Ryours Wold Wyours) (fun v s' hv => ?_) (fun _ _ e => e)
  obtain ⟨rsecond, h12, g12, d12, k12, rfl, rfl, ab12, jt12, slsecond, up12⟩ := hv
  have S12 := (S11.upJ up12 jt12).add slsecond
  clear up12 jt12 slsecond S11 ok11
  have ok12 := S12.ok
  refine rStL S12.F S12.X (fun h13 k13 F13 X13 kk13 => ?_) (by kernel_rfl!) (by kernel_rfl!)
  have S13 := S12.stL F13 X13 kk13
  clear F13 X13 kk13 S12 ok12
  have ok13 := S13.ok
  have ab13 := ab12
  repeat walk_at "gg"
  refine cwF (ob818 pw w.params) (by with_unfolding_all rfl) ?_
  repeat walk_at "gg"
  refine ldCe (S13.cv (n := "first") (c := h.objs.size + 1 + 1) (by kernel_rfl!) (by walk_at "lk")) (by kernel_rfl!) ?_ (by kernel_rfl!) (by kernel_rfl!) (by decide +kernel)
  repeat walk_at "gg"
  refine ldN S13.F.ns (by walk_at "lk") ?_ (by kernel_rfl!) (by kernel_rfl!) (by decide +kernel)
  repeat walk_at "gg"
  refine ⟨⟨a818 ok13, rfl⟩, ?_⟩
  refine wpAny_mono (changed_spec (told := toldOf old mine) (shelf := yours) (by show callerA.depth + 1 < recursionLimit; decide +kernel) ok13 rfl (S13.ls (rfirst, (toldOf old mine).map chg) (by simp)) (S13.ls (ryours, yours) (by simp)) (by have := told_len old mine; omega) (told_words Wold Wmine)) (fun v s' hv => ?_) (fun _ _ e => e)
  obtain ⟨⟨rboth, both, rfl, slboth, pmboth, soboth⟩, h14, k14, rfl, kk14⟩ := hv
  have S14 := (S13.keep kk14).add slboth
  clear kk14 S13 ok13
  have ok14 := S14.ok
  clear slboth
  refine rStL S14.F S14.X (fun h15 k15 F15 X15 kk15 => ?_) (by kernel_rfl!) (by kernel_rfl!)
  have S15 := S14.stL F15 X15 kk15
  clear F15 X15 kk15 S14 ok14
  have ok15 := S15.ok
  obtain ⟨Rboth, Wboth, Mboth⟩ := both_rise Rold Rmine Ryours Wold Wmine Wyours pmboth soboth
  repeat walk_at "gg"
  repeat walk_at "gg"
  refine cwF (ob818 pw w.params) (by with_unfolding_all rfl) ?_
  repeat walk_at "gg"
  refine ldCe (S15.cv (n := "first") (c := h.objs.size + 1 + 1) (by kernel_rfl!) (by walk_at "lk")) (by kernel_rfl!) ?_ (by kernel_rfl!) (by kernel_rfl!) (by decide +kernel)
  repeat walk_at "gg"
  refine ldN S15.F.ns (by walk_at "lk") ?_ (by kernel_rfl!) (by kernel_rfl!) (by decide +kernel)
  repeat walk_at "gg"
  refine ⟨⟨a818 ok15, rfl⟩, ?_⟩
  refine wpAny_mono (changed_spec (told := toldOf old mine) (shelf := old) (by show callerA.depth + 1 < recursionLimit; decide +kernel) ok15 rfl (S15.ls (rfirst, (toldOf old mine).map chg) (by simp)) (S15.ls (rold, old) (by simp)) (by have := told_len old mine; omega) (told_words Wold Wmine)) (fun v s' hv => ?_) (fun _ _ e => e)
  obtain ⟨⟨rc1, c1, rfl, slc1, pmc1, soc1⟩, h16, k16, rfl, kk16⟩ := hv
  have S16 := (S15.keep kk16).add slc1
  clear kk16 S15 ok15
  have ok16 := S16.ok
  clear slc1
  refine ldN S16.F.ns (by walk_at "lk") ?_ (by kernel_rfl!) (by kernel_rfl!) (by decide +kernel)
  repeat walk_at "gg"
  have ec1 : c1 = mine := law1 Rold Rmine Ryours Wold Wmine Wyours pmc1 soc1
  refine neSL (ss := mine) (ec1 ▸ S16.ls (rc1, c1) (by simp)) (S16.ls (rmine, mine) (by simp)) (by show callerA.units + 3 < cLine; decide +kernel) ?_
  repeat walk_at "gg"
  repeat walk_at "gg"
  refine cwF (ob818 pw w.params) (by with_unfolding_all rfl) ?_
  repeat walk_at "gg"
  refine ldN S16.F.ns (by walk_at "lk") ?_ (by kernel_rfl!) (by kernel_rfl!) (by decide +kernel)
  repeat walk_at "gg"
  refine ldN S16.F.ns (by walk_at "lk") ?_ (by kernel_rfl!) (by kernel_rfl!) (by decide +kernel)
  repeat walk_at "gg"
  refine ⟨⟨a818 ok16, rfl⟩, ?_⟩
  refine wpAny_mono (changed_spec (told := toldOf old yours) (shelf := mine) (by show callerA.depth + 1 < recursionLimit; decide +kernel) ok16 rfl (S16.ls (rsecond, (toldOf old yours).map chg) (by simp)) (S16.ls (rmine, mine) (by simp)) (by have := told_len old yours; omega) (told_words Wold Wyours)) (fun v s' hv => ?_) (fun _ _ e => e)
  obtain ⟨⟨rc2, c2, rfl, slc2, pmc2, soc2⟩, h17, k17, rfl, kk17⟩ := hv
  have S17 := (S16.keep kk17).add slc2
  clear kk17 S16 ok16
  have ok17 := S17.ok
  clear slc2
  refine ldN S17.F.ns (by walk_at "lk") ?_ (by kernel_rfl!) (by kernel_rfl!) (by decide +kernel)
  repeat walk_at "gg"
  have ec2 : c2 = both := law2 Rold Rmine Ryours Wold Wmine Wyours pmboth soboth pmc2 soc2
  refine neSL (ss := both) (ec2 ▸ S17.ls (rc2, c2) (by simp)) (S17.ls (rboth, both) (by simp)) (by show callerA.units + 3 < cLine; decide +kernel) ?_
  repeat walk_at "gg"
  refine ldN S17.F.ns (by walk_at "lk") ?_ (by kernel_rfl!) (by kernel_rfl!) (by decide +kernel)
  repeat walk_at "gg"
  obtain ⟨kvsv1, epv1, dav1, ekv1, evv1⟩ := S17.T.at'
  have Tv1 := S17.T
  have Cv1 := S17.cv (n := "table") (c := h.objs.size + 1) (by kernel_rfl!) (by walk_at "lk")
  refine rCompD (cl := [("table", h.objs.size + 1)]) (fun y => keptZ (b y) == 1) id rfl (by kernel_rfl!) (by kernel_rfl!) (fun Q E q => ldCe Cv1 (by kernel_rfl!) q (by kernel_rfl!) (by kernel_rfl!) (by decide +kernel)) dav1 Tv1.nm ?_ ?_ ?_ ?_ (fun _ => by kernel_rfl!)
  · have := Tv1.len; rw [← ekv1, List.length_map] at this; rw [sizeLine_eq]; omega
  · intro C y u h' g' d' k' os' m E' hy hC hn hm hk
    rw [ekv1] at hy
    have okc := ok17.keeps hk
    refine wpAny_tests_one ?_
    repeat walk_at "gg"
    refine cwF (ob825 pw w.params) (by with_unfolding_all rfl) ?_
    repeat walk_at "gg"
    refine ldCe (Cv1.keeps hk) (by kernel_rfl!) ?_ (by kernel_rfl!) (by kernel_rfl!) (by decide +kernel)
    refine ldN hn hm ?_ (by kernel_rfl!) (by kernel_rfl!) (by decide +kernel)
    refine itD (Tv1.keep hk) hy (fun _ _ => ?_) (by with_unfolding_all rfl)
    repeat walk_at "gg"
    refine ⟨⟨a825 okc, rfl⟩, ?_⟩
    refine wpAny_mono (kept_spec (by show callerA.depth + 1 < recursionLimit; decide +kernel) okc (kr y hy).1 (kr y hy).2) (fun v s' hv => ?_) (fun _ _ e => e)
    obtain ⟨⟨u', rfl⟩, h'', k'', rfl, kk⟩ := hv
    repeat walk_at "gg"
    exact ⟨rfl, kps kk⟩
  · intro C y u h' g' d' k' os' m E' hy hp hC hn hm hk
    refine ldN hn hm ⟨⟨_, rfl⟩, kps fun _ _ e => e⟩ (by kernel_rfl!) (by kernel_rfl!) (by decide +kernel)
  intro Dv1 hhv1 khv1 ysv1 hDv1 hplv1 hSv1 hkv1
  rw [ekv1, List.map_id] at hSv1
  repeat walk_at "gg"
  refine rSortS hplv1.isList hSv1 (by have := Tv1.len; have := List.length_filter_le (fun y => keptZ (b y) == 1) ks; have := hSv1.length; omega) fun hsv1 rv1 outv1 v1 hrv1 hr2v1 hlv1 k2v1 hIv1 hpv1 hsv1' => ?_
  have S18 := (S17.keep fun b o e => k2v1 b o (hkv1 b o e)).add (r := rv1) (ss := v1) ⟨_, hlv1, hIv1⟩
  clear S17 ok17 dav1 Tv1 Cv1
  have ok18 := S18.ok
  have ev1 : v1 = both := law3 Rold Rmine Ryours Wold Wmine Wyours pmboth soboth hpv1 hsv1' kn kw (fun y hy => by rcases hy with q | q | q <;> first | exact ((Mold y).mp q).1 | exact ((Mmine y).mp q).1 | exact ((Myours y).mp q).1) (fun y hy => by rw [Mold y, Mmine y, Myours y]; have := kept_iff (kr y hy).1 (kr y hy).2; simp only [hy, true_and] at this ⊢; exact this)
  refine neSL (ss := both) (S18.ls (rboth, both) (by simp)) (ev1 ▸ S18.ls (rv1, v1) (by simp)) (by show callerA.units + 3 < cLine; decide +kernel) ?_
  repeat walk_at "gg"
  refine ldN S18.F.ns (by walk_at "lk") ?_ (by kernel_rfl!) (by kernel_rfl!) (by decide +kernel)
  repeat walk_at "gg"
  obtain ⟨kvsv2, epv2, dav2, ekv2, evv2⟩ := S18.T.at'
  have Tv2 := S18.T
  have Cv2 := S18.cv (n := "table") (c := h.objs.size + 1) (by kernel_rfl!) (by walk_at "lk")
  refine rCompD (cl := [("table", h.objs.size + 1)]) (fun y => votedZ (b y) == 1) id rfl (by kernel_rfl!) (by kernel_rfl!) (fun Q E q => ldCe Cv2 (by kernel_rfl!) q (by kernel_rfl!) (by kernel_rfl!) (by decide +kernel)) dav2 Tv2.nm ?_ ?_ ?_ ?_ (fun _ => by kernel_rfl!)
  · have := Tv2.len; rw [← ekv2, List.length_map] at this; rw [sizeLine_eq]; omega
  · intro C y u h' g' d' k' os' m E' hy hC hn hm hk
    rw [ekv2] at hy
    have okc := ok18.keeps hk
    refine wpAny_tests_one ?_
    repeat walk_at "gg"
    refine cwF (ob832 pw w.params) (by with_unfolding_all rfl) ?_
    repeat walk_at "gg"
    refine ldCe (Cv2.keeps hk) (by kernel_rfl!) ?_ (by kernel_rfl!) (by kernel_rfl!) (by decide +kernel)
    refine ldN hn hm ?_ (by kernel_rfl!) (by kernel_rfl!) (by decide +kernel)
    refine itD (Tv2.keep hk) hy (fun _ _ => ?_) (by with_unfolding_all rfl)
    repeat walk_at "gg"
    refine ⟨⟨a832 okc, rfl⟩, ?_⟩
    refine wpAny_mono (voted_spec (by show callerA.depth + 1 + 1 < recursionLimit; decide +kernel) okc (kr y hy).1 (kr y hy).2) (fun v s' hv => ?_) (fun _ _ e => e)
    obtain ⟨⟨u', rfl⟩, h'', k'', rfl, kk⟩ := hv
    repeat walk_at "gg"
    exact ⟨rfl, kps kk⟩
  · intro C y u h' g' d' k' os' m E' hy hp hC hn hm hk
    refine ldN hn hm ⟨⟨_, rfl⟩, kps fun _ _ e => e⟩ (by kernel_rfl!) (by kernel_rfl!) (by decide +kernel)
  intro Dv2 hhv2 khv2 ysv2 hDv2 hplv2 hSv2 hkv2
  rw [ekv2, List.map_id] at hSv2
  repeat walk_at "gg"
  refine rSortS hplv2.isList hSv2 (by have := Tv2.len; have := List.length_filter_le (fun y => votedZ (b y) == 1) ks; have := hSv2.length; omega) fun hsv2 rv2 outv2 v2 hrv2 hr2v2 hlv2 k2v2 hIv2 hpv2 hsv2' => ?_
  have S19 := (S18.keep fun b o e => k2v2 b o (hkv2 b o e)).add (r := rv2) (ss := v2) ⟨_, hlv2, hIv2⟩
  clear S18 ok18 dav2 Tv2 Cv2
  have ok19 := S19.ok
  have ev2 : v2 = both := law3 Rold Rmine Ryours Wold Wmine Wyours pmboth soboth hpv2 hsv2' kn kw (fun y hy => by rcases hy with q | q | q <;> first | exact ((Mold y).mp q).1 | exact ((Mmine y).mp q).1 | exact ((Myours y).mp q).1) (fun y hy => by rw [Mold y, Mmine y, Myours y]; have := voted_iff (kr y hy).1 (kr y hy).2; simp only [hy, true_and] at this ⊢; exact this)
  refine neSL (ss := both) (S19.ls (rboth, both) (by simp)) (ev2 ▸ S19.ls (rv2, v2) (by simp)) (by show callerA.units + 3 < cLine; decide +kernel) ?_
  repeat walk_at "gg"
  refine ldCe (S19.cv (n := "first") (c := h.objs.size + 1 + 1) (by kernel_rfl!) (by walk_at "lk")) (by kernel_rfl!) ?_ (by kernel_rfl!) (by kernel_rfl!) (by decide +kernel)
  repeat walk_at "gg"
  refine cwF (ob813 pw w.params) (by with_unfolding_all rfl) ?_
  repeat walk_at "gg"
  refine ldN S19.F.ns (by walk_at "lk") ?_ (by kernel_rfl!) (by kernel_rfl!) (by decide +kernel)
  repeat walk_at "gg"
  refine ldN S19.F.ns (by walk_at "lk") ?_ (by kernel_rfl!) (by kernel_rfl!) (by decide +kernel)
  repeat walk_at "gg"
  refine ⟨⟨a813 ok19, rfl⟩, ?_⟩
  refine wpAny_mono (due_spec (old := old) (new := mine) (by show callerA.depth + 1 < recursionLimit; decide +kernel) ok19 rfl (S19.ls (rold, old) (by simp)) (S19.ls (rmine, mine) (by simp)) (by omega) (by omega) (fun z hz => words_len (Wold z hz)) (fun z hz => words_len (Wmine z hz))) (fun v s' hv => ?_) (fun _ _ e => e)
  rw [show (old.filter fun z => !(mine.any (· == z))).map minus ++ (mine.filter fun z => !(old.any (· == z))).map plus = (toldOf old mine).map chg from (toldOf_map old mine).symm] at hv
  obtain ⟨⟨rd1, rfl, sld1⟩, h20, k20, rfl, kk20⟩ := hv
  have S20 := (S19.keep kk20).add sld1
  clear kk20 S19 ok19
  have ok20 := S20.ok
  clear sld1
  refine neSL (ss := (toldOf old mine).map chg) (S20.ls (rfirst, (toldOf old mine).map chg) (by simp)) (S20.ls (rd1, (toldOf old mine).map chg) (by simp)) (by show callerA.units + 3 < cLine; decide +kernel) ?_
  repeat walk_at "gg"
  refine ldN S20.F.ns (by walk_at "lk") ?_ (by kernel_rfl!) (by kernel_rfl!) (by decide +kernel)
  repeat walk_at "gg"
  refine cwF (ob813 pw w.params) (by with_unfolding_all rfl) ?_
  repeat walk_at "gg"
  refine ldN S20.F.ns (by walk_at "lk") ?_ (by kernel_rfl!) (by kernel_rfl!) (by decide +kernel)
  repeat walk_at "gg"
  refine ldN S20.F.ns (by walk_at "lk") ?_ (by kernel_rfl!) (by kernel_rfl!) (by decide +kernel)
  repeat walk_at "gg"
  refine ⟨⟨a813 ok20, rfl⟩, ?_⟩
  refine wpAny_mono (due_spec (old := old) (new := yours) (by show callerA.depth + 1 < recursionLimit; decide +kernel) ok20 rfl (S20.ls (rold, old) (by simp)) (S20.ls (ryours, yours) (by simp)) (by omega) (by omega) (fun z hz => words_len (Wold z hz)) (fun z hz => words_len (Wyours z hz))) (fun v s' hv => ?_) (fun _ _ e => e)
  rw [show (old.filter fun z => !(yours.any (· == z))).map minus ++ (yours.filter fun z => !(old.any (· == z))).map plus = (toldOf old yours).map chg from (toldOf_map old yours).symm] at hv
  obtain ⟨⟨rd2, rfl, sld2⟩, h21, k21, rfl, kk21⟩ := hv
  have S21 := (S20.keep kk21).add sld2
  clear kk21 S20 ok20
  have ok21 := S21.ok
  clear sld2
  refine neSL (ss := (toldOf old yours).map chg) (S21.ls (rsecond, (toldOf old yours).map chg) (by simp)) (S21.ls (rd2, (toldOf old yours).map chg) (by simp)) (by show callerA.units + 3 < cLine; decide +kernel) ?_
  repeat walk_at "gg"
  have ab21 := ab13
  repeat walk_at "gg"
  refine cwF (ob808 pw w.params) (by with_unfolding_all rfl) ?_
  repeat walk_at "gg"
  refine ldN S21.F.ns (by walk_at "lk") ?_ (by kernel_rfl!) (by kernel_rfl!) (by decide +kernel)
  repeat walk_at "gg"
  refine ldN S21.F.ns (by walk_at "lk") ?_ (by kernel_rfl!) (by kernel_rfl!) (by decide +kernel)
  repeat walk_at "gg"
  refine ⟨⟨a808 ok21, rfl⟩, ?_⟩
  refine wpAny_mono (lread_spec (outer := [lawEnv h.objs.size]) (by show callerA.depth + 1 + 16 < recursionLimit; decide +kernel) rfl S21.below (fun b hb => by rw [List.mem_singleton.mp hb]; exact S21.Lge) ok21 S21.bm S21.jt ab21 (S21.ls (rmine, mine) (by simp)) (S21.ls (rboth, both) (by simp)) Rmine Rboth Wmine Wboth) (fun v s' hv => ?_) (fun _ _ e => e)
  obtain ⟨rthird, h22, g22, d22, k22, rfl, rfl, ab22, jt22, slthird, up22⟩ := hv
  have S22 := (S21.upJ up22 jt22).add slthird
  clear up22 jt22 slthird S21 ok21
  have ok22 := S22.ok
  repeat walk_at "gg"
  have C1 := S22.cv (n := "first") (c := h.objs.size + 1 + 1) (by kernel_rfl!) (by walk_at "lk")
  have SF := S22.ls (rfirst, (toldOf old mine).map chg) (by simp)
  obtain ⟨vs2, v21, v22⟩ := S22.ls (rsecond, (toldOf old yours).map chg) (by simp)
  have tl2 := told_len old yours
  have vl2 := v22.length
  rw [List.length_map] at vl2
  refine rCompS (cl := [("first", h.objs.size + 1 + 1)]) (ax := rsecond) (fun c => !(((toldOf old mine).map chg).any (· == c))) id rfl (by kernel_rfl!) (by kernel_rfl!) (fun Q E q => ldN S22.F.ns (by walk_at "lk") q (by kernel_rfl!) (by kernel_rfl!) (by decide +kernel)) v21 v22 (by rw [sizeLine_eq]; omega) ?_ ?_ ?_ (fun _ => by kernel_rfl!)
  · intro C y u h' g' d' k' os' m E' hy hC hn hm hk
    refine wpAny_tests_one ?_
    repeat walk_at "gg"
    refine ldN hn hm ?_ (by kernel_rfl!) (by kernel_rfl!) (by decide +kernel)
    refine ldCe (C1.keeps hk) (by kernel_rfl!) ?_ (by kernel_rfl!) (by kernel_rfl!) (by decide +kernel)
    refine rNotIn (SF.keep hk) ?_
    repeat walk_at "gg"
    exact ⟨rfl, kps fun _ _ e => e⟩
  · intro C y u h' g' d' k' os' m E' hy hp hC hn hm hk
    refine ldN hn hm ⟨⟨_, rfl⟩, kps fun _ _ e => e⟩ (by kernel_rfl!) (by kernel_rfl!) (by decide +kernel)
  intro D hh kh ys hD hpl hS hk
  rw [List.map_id, ← law6 Rold Rmine Ryours Wold Wmine Wyours Rboth Wboth Mboth] at hS
  have SE := S22.keep hk
  refine eqSL (ss := (toldOf mine both).map chg) (SE.ls (rthird, (toldOf mine both).map chg) (by simp)) ⟨ys, hpl.isList, hS⟩ (by show callerA.units + 3 < cLine; decide +kernel) ?_
  exact ⟨rfl, hh, _, _, _, rfl, ab22, SE.jt, SE.kp⟩
end
theorem ns_same {h : Heap} {a : Addr} {m m' : Str → Option Value} (x : h.Ns a m) (y : h.Ns a m') (n : Str) : m n = m' n := by
  obtain ⟨o, es, ep, ho, hd, _, hf⟩ := x
  obtain ⟨o', es', ep', ho', hd', _, hf'⟩ := y
  rw [ho] at ho'; cases ho'
  rw [hd] at hd'; cases hd'
  rw [← hf n, hf' n]
theorem KK_in {P : Params} {h : Heap} (x : (K0 pw P).In h) : (KK pw P).In h := by
  intro a o e
  refine x a o ?_
  show List.lookup a ((766, ob766) :: KK pw P) = some o
  rw [List.lookup_cons]
  cases q : a == 766 with
  | false => exact e
  | true =>
    rw [beq_iff_eq.mp q, show (KK pw P).lookup 766 = none by kernel_rfl!] at e
    cases e
theorem jt_of {w : World} {h : Heap} (ok : Ok w h) (x : (K0 pw w.params).In h) : JT h := by
  have h766 : h.get? 766 = some ob766 := x 766 ob766 rfl
  have h770 := a770 ok
  refine ⟨#[], ⟨_, _, _, _, _, _, _, _, _, _, h770, rfl, rfl, rfl, rfl, rfl, rfl, h766, rfl, ?_, by decide⟩, ⟨⟨_, _, h770, rfl, rfl, rfl⟩, h766⟩⟩
  first | trivial | decide | simp [TriplesOk]
theorem walk : theWalk := by
  intro w s₀ s₁ mg mb G Y a o pm cd doc dV kV ho hd hcd hD hmg hg args vals as hpre hlay hrd hwl hlo
  obtain ⟨h, g, d, k, os⟩ := s₁
  have T := G.T
  have K0i : (K0 pw w.params).In h := Y
  have ok : Ok w h := ⟨KK_in K0i, T.nolimit, mb, T.b, T.builtins⟩
  have gs : ∀ n, mg n = gm w.params n := ns_same T.g ok.g
  have jt := jt_of ok K0i
  have h766 : h.get? 766 = some ob766 := K0i 766 ob766 rfl
  have bm : BM h := by
    obtain ⟨b4, ob, e1, e2, e3, e4, e5, e6⟩ := T.bmain
    rw [gs, show gm w.params "__builtins__" = some (.ref 4) by kernel_rfl!] at e1
    cases e1
    exact ⟨ob, e3, e4, e5, e6⟩
  have ha : a = 837 := by
    rw [gs] at hmg
    have : gm w.params lawD.name = some (.ref 837) := by kernel_rfl!
    rw [this] at hmg; cases hmg; rfl
  subst ha
  clear ho hd hcd hD hmg G T Y K0i gs
  wrow_args hpre hlay hrd hwl hlo
  rename_i ns _ _ _ _ _ as1 as2 l vs as3 hL _ _ _ hI _ hc _
  have hlen : ns.length ≤ 63 := by omega
  have hg' : g = #[] := hg
  subst hg'
  refine wpAny_mono (law_spec (w := w) ok jt bm (AllBare.of_eq rfl) hL hI hlen) (fun v s' hv => ?_) (fun _ _ e => e)
  obtain ⟨rfl, h', g', d', k', rfl, ab, jt', kp⟩ := hv
  refine ⟨.inl ⟨.bool true, .bool true, [], rfl, fun cls => rfl, .bool true, postW_of rfl rfl (by first | exact same_self _ | decide +kernel), fun _ => ⟨.nil, fun a ha => absurd ha (by simp)⟩⟩, ?_, rfl, ab⟩
  refine ⟨fun b o e => ?_, fun b o e => ?_⟩
  · by_cases hb : b = 766
    · subst hb
      obtain ⟨ps0, _, ta0⟩ := jt
      obtain ⟨ps, _, ta⟩ := jt'
      have eo : o = ob766 := Option.some.inj (e.symm.trans h766)
      subst eo
      exact .inr (.inl ⟨ta0.isCodeTable, rfl, #[], ps, rfl, by rw [Array.empty_append]; exact ta.2⟩)
    · exact .inl (kp b o hb e)
  · by_cases hb : b = 766
    · subst hb
      obtain ⟨ps, _, ta⟩ := jt'
      exact ⟨_, ta.2⟩
    · exact ⟨o, kp b o hb e⟩
theorem walked : PySem.Challenge.rw_oc0270_01.row.wellSaid = true → PySem.Challenge.rw_oc0270_01.row.Holds := hd walk
end Mine
set_option maxRecDepth 100000 in
set_option maxHeartbeats 8000000 in
theorem PySem.Challenge.cw_oc0270_01_holds : PySem.Challenge.rw_oc0270_01.Holds := by
  exact holds_law Mine.said Mine.walked
