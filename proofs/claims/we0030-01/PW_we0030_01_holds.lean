import PyProof.Rows.All
import Wide.All
import OpenK.AllK
import Wide.FinOn
import PySem.Challenge.RW_we0030_01
set_option Elab.async false
section
open PySem PySem.W PyProof.Rows
set_option maxRecDepth 100000
namespace Mine
abbrev pw := PySem.Challenge.pw_we0030_01

def impT (tb : String → Option Builtin) (p : Program) (w : World) : Nat → SharedT → Thread → Option SharedT
  | 0, _, _ => none
  | n + 1, s, t => match t.atExitBegin with
    | some [] => some s
    | some (_ :: _) => none
    | none => match stepT (denote tb) p w s t with
      | some (s', t') => impT tb p w n s' t'
      | none => none
theorem impT_of {tb : String → Option Builtin} {p : Program} {w : World} : ∀ {n : Nat} {s s' : SharedT} {t : Thread}, impT tb p w n s t = some s' → importEnds tb p w n s.abs t = some s'.abs
  | 0, _, _, _, h => by cases h
  | n + 1, s, s', t, h => by
    unfold impT at h
    unfold importEnds
    cases he : t.atExitBegin with
    | some x => rw [he] at h; cases x with
      | nil => cases h; rfl
      | cons _ _ => cases h
    | none =>
      rw [he] at h
      cases hs : stepT (denote tb) p w s t with
      | none => rw [hs] at h; cases h
      | some r => obtain ⟨s₂, t₂⟩ := r; rw [hs] at h; dsimp only; rw [stepT_spec hs]; exact impT_of h

def topT (tb : String → Option Builtin) (p : Program) (w : World) (n₀ : Nat) (ann : Option Value) : Nat → SharedT → Thread → Option SharedT
  | 0, _, _ => none
  | n + 1, s, t => match through t with
    | true => some s
    | false => match stepOk n₀ ann t with
      | false => none
      | true => match stepT (denote tb) p w s t with
        | some (s', t') => topT tb p w n₀ ann n s' t'
        | none => none
theorem topT_of {tb : String → Option Builtin} {p : Program} {w : World} {n₀ : Nat} {ann : Option Value} : ∀ {n : Nat} {s s' : SharedT} {t : Thread}, topT tb p w n₀ ann n s t = some s' → topRun tb p w n₀ ann n s.abs t = some s'.abs
  | 0, _, _, _, h => by cases h
  | n + 1, s, s', t, h => by
    unfold topT at h
    unfold topRun
    cases he : through t with
    | true => rw [he] at h; cases h; rfl
    | false =>
      rw [he] at h
      cases hk : stepOk n₀ ann t with
      | false => rw [hk] at h; cases h
      | true =>
        rw [hk] at h
        cases hs : stepT (denote tb) p w s t with
        | none => rw [hs] at h; cases h
        | some r => obtain ⟨s₂, t₂⟩ := r; rw [hs] at h; dsimp only; rw [stepT_spec hs]; exact topT_of h

def loadT : List Obj → BT → Nat → Option (BT × Nat)
  | [], T, n => some (T, n)
  | o :: r, T, n => match ((T.ins n o).get n).isSome with
    | true => loadT r (T.ins n o) (n + 1)
    | false => none
theorem loadT_of (life : Life) : ∀ {l : List Obj} {T T' : BT} {n n' : Nat}, loadT l T n = some (T', n') → absHeap T' n' life = ⟨(absHeap T n life).objs ++ l.toArray, life⟩
  | [], T, T', n, n', h => by
    cases h
    show absHeap T n life = _
    simp only [Array.append_empty]
    rfl
  | o :: r, T, T', n, n', h => by
    unfold loadT at h
    cases e : ((T.ins n o).get n).isSome with
    | false => rw [e] at h; cases h
    | true =>
      rw [e] at h
      rw [loadT_of life h, absHeap_ins e]
      show Heap.mk _ _ = Heap.mk _ _
      congr 1
      show ((absHeap T n life).objs.push o) ++ r.toArray = _
      rw [Array.push_eq_append, Array.append_assoc]
      congr 1
      simp
def ofSh (s : Shared) : Option SharedT := (loadT s.heap.objs.toList .nil 0).map fun r => ⟨r.1, r.2, s.heap.life, s.gens, s.drawn, s.toks, s.os⟩
theorem ofSh_of {s : Shared} {sT : SharedT} (h : ofSh s = some sT) : sT.abs = s := by
  obtain ⟨⟨T, n⟩, e, rfl⟩ := Option.map_eq_some_iff.mp h
  have q := loadT_of s.heap.life e
  show Shared.mk (absHeap T n s.heap.life) _ _ _ _ = s
  rw [q]
  obtain ⟨⟨objs, life⟩, g, d, t, os⟩ := s
  show Shared.mk (Heap.mk _ _) _ _ _ _ = _
  congr 2
  show (absHeap .nil 0 life).objs ++ objs.toList.toArray = objs
  have z : (absHeap .nil 0 life).objs = #[] := rfl
  rw [z]
  simp

def openT (tb : String → Option Builtin) (p : Program) (w : World) (N : Nat) (os0 : OsState) (t0 : Thread) : Option SharedT :=
  (impT tb (opening p) w N ⟨.nil, 0, {}, #[], {}, 1, os0⟩ t0).bind fun s => (fenceModules? p s.abs).bind ofSh
def restT (tb : String → Option Builtin) (p : Program) (w : World) (N : Nat) (s₀ : SharedT) : Option SharedT :=
  match s₀.abs.heap.isNs mainGlobals && s₀.gens.size == 0 with
  | true => (topT tb p w s₀.n (s₀.abs.heap.nsMap mainGlobals "__annotations__") N s₀ (topStub p)).bind fun s₁ => match staticsOk (importedModules p.main.body) s₀.abs.heap s₁.abs.heap && namesBound p s₁.abs.heap && gensDone s₁.abs && laidKept s₀.abs.heap s₁.abs.heap with
      | true => some s₁
      | false => none
  | false => none
theorem ends_of {p : Program} {w : World} {N : Nat} {s₁ : SharedT} (h : (openT treeTable p w N (start (opening p)).1.os (start (opening p)).2).bind (restT treeTable p w N) = some s₁) : openEnds treeTable p w N = some s₁.abs := by
  obtain ⟨s₀, h0, h1⟩ := Option.bind_eq_some_iff.mp h
  unfold openT at h0
  obtain ⟨si, hi, hf⟩ := Option.bind_eq_some_iff.mp h0
  obtain ⟨sf, hf, ho⟩ := Option.bind_eq_some_iff.mp hf
  have e0 := ofSh_of ho
  have ei := impT_of hi
  unfold openEnds fencedOpening
  have z : importEnds treeTable (opening p) w N (start (opening p)).1 (start (opening p)).2 = some si.abs := ei
  rw [z]
  show ((fenceModules? p si.abs).bind (topFrom treeTable p w N)) = _
  rw [hf]
  show topFrom treeTable p w N sf = _
  rw [← e0]
  unfold restT at h1
  unfold topFrom
  have hsz : s₀.abs.heap.objs.size = s₀.n := absHeap_size _ _ _
  have hg : s₀.abs.gens = s₀.gens := rfl
  rw [hsz, hg]
  cases e1 : s₀.abs.heap.isNs mainGlobals && s₀.gens.size == 0 with
  | false => rw [e1] at h1; cases h1
  | true =>
    rw [e1] at h1
    obtain ⟨s₂, h2, h3⟩ := Option.bind_eq_some_iff.mp h1
    rw [topT_of h2]
    show (match staticsOk (importedModules p.main.body) s₀.abs.heap s₂.abs.heap && namesBound p s₂.abs.heap && gensDone s₂.abs && laidKept s₀.abs.heap s₂.abs.heap with | true => some s₂.abs | false => none) = some s₁.abs
    cases e2 : staticsOk (importedModules p.main.body) s₀.abs.heap s₂.abs.heap && namesBound p s₂.abs.heap && gensDone s₂.abs && laidKept s₀.abs.heap s₂.abs.heap with
    | false => rw [e2] at h3; cases h3
    | true => rw [e2] at h3; cases h3; rfl

def impG (st : SharedT → Thread → Option (SharedT × Thread)) (ex : Thread → Option (List Value)) : Nat → SharedT → Thread → Option SharedT
  | 0, _, _ => none
  | n + 1, s, t => match ex t with
    | some [] => some s
    | some (_ :: _) => none
    | none => match st s t with
      | some (s', t') => impG st ex n s' t'
      | none => none
theorem impG_eq (tb : String → Option Builtin) (p : Program) (w : World) : ∀ n s t, impT tb p w n s t = impG (stepT (denote tb) p w) Thread.atExitBegin n s t
  | 0, _, _ => rfl
  | n + 1, s, t => by
    unfold impT impG
    simp only [impG_eq tb p w n]
noncomputable def stQ (p : Program) (w : World) := PySem.W.Fast.tw10156331382660048174 (PySem.W.Fast.tw11892475500146522536 PySem.W.Fast.tw14364793385576792824) p w
theorem stQ_eq (p : Program) (w : World) : stepT (denote treeTable) p w = stQ p w := by
  unfold stQ
  rw [← PySem.W.Fast.te10156331382660048174, ← PySem.W.Fast.te11892475500146522536, ← PySem.W.Fast.te14364793385576792824]
noncomputable def impQ (p : Program) (w : World) := impG (stQ p w) PySem.W.Fast.tw3805553451399329143
theorem impQ_eq (p : Program) (w : World) (n s t) : impT treeTable p w n s t = impQ p w n s t := by
  rw [impG_eq, stQ_eq]
  unfold impQ
  rw [← PySem.W.Fast.te3805553451399329143]

def topG (st : SharedT → Thread → Option (SharedT × Thread)) (ok : Thread → Bool) : Nat → SharedT → Thread → Option SharedT
  | 0, _, _ => none
  | n + 1, s, t => match through t with
    | true => some s
    | false => match ok t with
      | false => none
      | true => match st s t with
        | some (s', t') => topG st ok n s' t'
        | none => none
theorem topG_eq (tb : String → Option Builtin) (p : Program) (w : World) (n₀ : Nat) (ann : Option Value) : ∀ n s t, topT tb p w n₀ ann n s t = topG (stepT (denote tb) p w) (stepOk n₀ ann) n s t
  | 0, _, _ => rfl
  | n + 1, s, t => by
    unfold topT topG
    simp only [topG_eq tb p w n₀ ann n]
noncomputable def topQ (p : Program) (w : World) (n₀ : Nat) (ann : Option Value) := topG (stQ p w) (PySem.W.Fast.tw6613529449190102663 n₀ ann)
theorem topQ_eq (p : Program) (w : World) (n₀ : Nat) (ann : Option Value) (n s t) : topT treeTable p w n₀ ann n s t = topQ p w n₀ ann n s t := by
  rw [topG_eq, stQ_eq]
  unfold topQ
  rw [← PySem.W.Fast.te6613529449190102663]
noncomputable def openQ (p : Program) (w : World) (N : Nat) (os0 : OsState) (t0 : Thread) : Option SharedT :=
  (impQ (opening p) w N ⟨.nil, 0, {}, #[], {}, 1, os0⟩ t0).bind fun s => (PySem.W.Fast.tw14289696077712309145 p s.abs).bind ofSh
theorem openQ_eq (p : Program) (w : World) (N : Nat) (os0 : OsState) (t0 : Thread) : openT treeTable p w N os0 t0 = openQ p w N os0 t0 := by
  unfold openT openQ
  rw [impQ_eq, ← PySem.W.Fast.te14289696077712309145]
noncomputable def restQ (p : Program) (w : World) (N : Nat) (s₀ : SharedT) : Option SharedT :=
  match s₀.abs.heap.isNs mainGlobals && s₀.gens.size == 0 with
  | true => (topQ p w s₀.n (PySem.W.Fast.tw8920871248978507458 s₀.abs.heap mainGlobals "__annotations__") N s₀ (topStub p)).bind fun s₁ => match staticsOk (importedModules p.main.body) s₀.abs.heap s₁.abs.heap && namesBound p s₁.abs.heap && gensDone s₁.abs && laidKept s₀.abs.heap s₁.abs.heap with
      | true => some s₁
      | false => none
  | false => none
theorem restQ_eq (p : Program) (w : World) (N : Nat) (s₀ : SharedT) : restT treeTable p w N s₀ = restQ p w N s₀ := by
  unfold restT restQ
  rw [topQ_eq, ← PySem.W.Fast.te8920871248978507458]

def vw : Program := view pw [0, 68]
def ls : List Str := List.map Str.ofString ["_wall", "CHAR_MAX", "_grouping_intervals", "LPAR", "RPAR", "LSQB", "RSQB", "COLON", "COMMA", "SEMI", "PLUS", "MINUS", "STAR", "SLASH", "VBAR", "AMPER", "LESS", "GREATER", "EQUAL", "DOT", "PERCENT", "LBRACE", "RBRACE", "EQEQUAL", "NOTEQUAL", "LESSEQUAL", "GREATEREQUAL", "TILDE", "CIRCUMFLEX", "LEFTSHIFT", "RIGHTSHIFT", "DOUBLESTAR", "PLUSEQUAL", "MINEQUAL", "STAREQUAL", "SLASHEQUAL", "PERCENTEQUAL", "AMPEREQUAL", "VBAREQUAL", "CIRCUMFLEXEQUAL", "LEFTSHIFTEQUAL", "RIGHTSHIFTEQUAL", "DOUBLESTAREQUAL", "DOUBLESLASH", "DOUBLESLASHEQUAL", "AT", "ATEQUAL", "RARROW", "ELLIPSIS", "COLONEQUAL", "EXCLAMATION", "NT_OFFSET", "EXACT_TOKEN_TYPES", "ISTERMINAL", "ISNONTERMINAL", "_name_disallowed_re", "_value_disallowed_re", "Headers", "_law_row", "_law_faces", "_law_symbol", "_law_tables", "_law_apart"]
noncomputable def lookQ {α : Type} (p q : Program) (loose : List Str) (N : Nat) (Xt : Shared → Bool) (Yf : Shared → α) (w : World) := ((openQ p w N (start (opening p)).1.os (start (opening p)).2).bind (restQ p w N)).map fun s => (@PySem.W.Fast.tw4187177175401517315 q loose (importedModules p.main.body) Xt true s.abs, Yf s.abs)
theorem look_of {α : Type} {p q : Program} {loose : List Str} {N : Nat} {Xt : Shared → Bool} {Yf : Shared → α} {w : World} {r} (h : lookQ p q loose N Xt Yf w = some r) : (openEnds treeTable p w N).map (fun s => (openSeen q loose (importedModules p.main.body) Xt true s, Yf s)) = some r := by
  unfold lookQ at h
  obtain ⟨s, a, b⟩ := Option.map_eq_some_iff.mp h
  rw [← openQ_eq, ← funext (restQ_eq p w N)] at a
  rw [ends_of a, PySem.W.Fast.te4187177175401517315]
  exact congrArg some b
theorem left_of {α : Type} {p q : Program} {loose : List Str} {N : Nat} {Xt : Shared → Bool} {Yf : Shared → α} {Ya : World → α} (row : String)
    (hf : ∀ w : World, lookQ p q loose N Xt Yf (w.withFollow row false) = some (openGood q loose, Ya (w.withFollow row false)))
    (ht : ∀ w : World, lookQ p q loose N Xt Yf (w.withFollow row true) = some (openGood q loose, Ya (w.withFollow row true))) : LeftO p q loose Xt Yf Ya N :=
  byRow2 row (fun w => look_of (hf w)) (fun w => look_of (ht w))
end Mine
end
section
open PySem PySem.W PyProof.Rows
set_option maxRecDepth 100000
section
local macro_rules
  | `(tactic| o_head $H) => `(tactic| (have hk := $H; assumption))
theorem Mine.mk (h : (PySem.Challenge.rw_we0030_01).row.Holds) : (PySem.Challenge.rw_we0030_01).row.Holds := by k_head
end
namespace Mine
theorem keys : ∀ P, ([2, 3, 32, 34, 35, 37, 38, 39, 41, 42, 44, 45, 46, 49, 51, 52, 54, 55, 56, 58, 59, 61, 62, 66, 67, 71, 72, 80, 81, 83, 84, 86, 87, 88, 90, 91, 93, 94, 95, 97, 98, 100, 101, 102, 104, 105, 107, 108, 109, 112, 113, 114, 116, 117, 119, 120, 121, 123, 124, 126, 127, 128, 130, 131, 133, 134, 135, 136, 138, 139, 141, 142, 143, 146, 147, 148, 151, 152, 153, 155, 156, 158, 159, 160, 162, 163, 165, 166, 167, 170, 171, 172, 174, 175, 177, 178, 179, 181, 182, 184, 185, 186, 188, 189, 191, 192, 193, 194, 195, 196, 197, 200, 203, 204, 205, 208, 209, 210, 212, 213, 215, 216, 217, 219, 220, 222, 223, 224, 227, 228, 229, 232, 233] : List Addr) = (Mine.mk.heap_1 P).map (·.1) := fun _ => by kernel_rfl
noncomputable abbrev hk : Hook := kHook Mine.mk.heap_1 [2, 3, 32, 34, 35, 37, 38, 39, 41, 42, 44, 45, 46, 49, 51, 52, 54, 55, 56, 58, 59, 61, 62, 66, 67, 71, 72, 80, 81, 83, 84, 86, 87, 88, 90, 91, 93, 94, 95, 97, 98, 100, 101, 102, 104, 105, 107, 108, 109, 112, 113, 114, 116, 117, 119, 120, 121, 123, 124, 126, 127, 128, 130, 131, 133, 134, 135, 136, 138, 139, 141, 142, 143, 146, 147, 148, 151, 152, 153, 155, 156, 158, 159, 160, 162, 163, 165, 166, 167, 170, 171, 172, 174, 175, 177, 178, 179, 181, 182, 184, 185, 186, 188, 189, 191, 192, 193, 194, 195, 196, 197, 200, 203, 204, 205, 208, 209, 210, 212, 213, 215, 216, 217, 219, 220, 222, 223, 224, 227, 228, 229, 232, 233] keys
abbrev xt : Shared → Bool := fun s => xlAt Mine.vw [] s && recOk (RowW.records PySem.Challenge.rw_we0030_01.row.toRowW) s
theorem l0 : ∀ w : World, lookQ pw vw ls 5382 xt (Hook.obs hk) (w.withFollow "special-get-raises" false) = some (openGood vw ls, Hook.val hk (w.withFollow "special-get-raises" false)) := fun w => by kernel_rfl
theorem l1 : ∀ w : World, lookQ pw vw ls 5382 xt (Hook.obs hk) (w.withFollow "special-get-raises" true) = some (openGood vw ls, Hook.val hk (w.withFollow "special-get-raises" true)) := fun w => by kernel_rfl
theorem left : LeftO pw vw ls xt (Hook.obs hk) (Hook.val hk) 5382 := left_of "special-get-raises" l0 l1
theorem said : OpenLaw.wellSaid PySem.Challenge.rw_we0030_01 = true := by kernel_rfl
end Mine
end
section
open PySem PySem.W PySem.Calls PyProof.Rows
set_option maxRecDepth 100000
namespace Mine
theorem reg : PySem.Challenge.rw_we0030_01 = PySem.Challenge.rw_we0030_01 ∧ Mine.mk.heap_1 = Mine.mk.heap_1 := by k_fill; exact ⟨rfl, rfl⟩
noncomputable abbrev K (w : World) : Frag := Mine.mk.heap_1 w.params
structure Gl (w : World) (h : Heap) : Prop where
  k : (Mine.mk.heap_1 w.params).In h
  t : ∃ p loose mg mb, TopRead p loose mg mb h
theorem Gl.keeps {w : World} {h h' : Heap} (G : Gl w h) (hk : ∀ b o, h.get? b = some o → h'.get? b = some o) : Gl w h' :=
  ⟨G.k.keeps hk, let ⟨p, l, mg, mb, T⟩ := G.t; ⟨p, l, mg, mb, T.keeps hk⟩⟩
theorem Gl.lim {w : World} {h : Heap} (G : Gl w h) : h.NoLimit := let ⟨_, _, _, _, T⟩ := G.t; T.nolimit
structure Room (A : Around) (n : Nat) : Prop where
  hd : A.handled = none
  dp : A.depth + n < recursionLimit
  un : A.units + 10 * n < cLine
theorem Room.le {A : Around} {n m : Nat} (R : Room A n) (h : m ≤ n) : Room A m := ⟨R.hd, by have := R.dp; omega, by have := R.un; omega⟩
theorem Room.deeper {A : Around} {n : Nat} (R : Room A (n + 1)) (env : Env) : Room (A.deeper env) n := ⟨R.hd, by have := R.dp; simp only [Around.deeper]; omega, by have := R.un; simp only [Around.deeper]; omega⟩

section
variable {prog : Program} {w : World} {A : Around} {E : Value → Shared → Prop} {s : Shared}
theorem enter_fn {R : Result → Shared → Prop} {name qual : Str} {params : Arguments} {body : List Stmt} {scope : Scope} {dV kV doc pm cdv ct oc : Value} {an od : Option Addr} {osl : Array (Option Value)} {f : Addr} {args : Args} {binds : List (Str × Value)}
    (G : Gl w s.heap) (hA : Room A 1)
    (ho : (Mine.mk.heap_1 w.params).lookup f = some ⟨oc, od, .func (fnOf name qual params body scope dV kV doc pm an cdv ct), osl⟩) (hcd : codeIn (Mine.mk.heap_1 w.params) cdv qual = true)
    (hbind : BindsTo s (fnOf name qual params body scope dV kV doc pm an cdv ct) args binds) (hloc : ∀ y ∈ binds, scope.names.lookup y.1 = some .local)
    (hcell : ∀ x ∈ scope.names, x.2 ≠ .cell)
    (h : ∀ h₁, Fr s.heap s.heap.objs.size h₁ (fun y => binds.reverse.lookup y) →
      wpAny (model prog w) (A.deeper (envOf qual scope s.heap.objs.size f cdv)) (execs body (envOf qual scope s.heap.objs.size f cdv))
        (fun fl s' => R (.ok (.ret (match fl with | .ret v => v | _ => .none))) s') (fun _ _ => False) { s with heap := h₁, toks := s.toks + binds.length })
    (hco : scope.isCoroutine = false := by rfl) (hgen : scope.isGenerator = false := by rfl) (hk : scope.kind = .function := by rfl) : codeAny (model prog w) A (.call (.ref f) args) R s := by
  refine codeAny_call_def (fd := fnOf name qual params body scope dV kV doc pm an cdv ct) (body := body) (binds := binds) (by have := hA.dp; omega) (G.k _ _ ho) rfl G.lim (codeRec_of G.k hcd) rfl hbind hcell hloc (fun h₁ hns hk₁ => ?_) hco hgen hk
  exact wpAny_mono (h h₁ ⟨hns, hk₁, Nat.le_refl _⟩) (fun _ _ x => x) fun _ _ x => x.elim
end

def signs : List Str := ["+", "-", "*", "/", "|", "&", "<", ">", "=", ".", "%", "{", "}", "==", "!=", "<="]
def sg (c : Nat) : Str := signs.getD c default

section
variable {prog : Program} {w : World} {A : Around} {E : Value → Shared → Prop} {s : Shared}

theorem sg_lt {c : Nat} (h : c < 16) : sg c = signs[c]'(by simpa [signs] using h) := by
  unfold sg
  rw [List.getD_eq_getElem?_getD, List.getElem?_eq_getElem (by simpa [signs] using h)]
  rfl

theorem ett_val (P : Params) : ∀ c, c < 16 → ∃ tok, nsIn (Mine.mk.heap_1 P) 46 (sg c) = some (some (.int (14 + (c : Int)) tok)) := by
  intro c hc
  match c, hc with
  | 0, _ => exact ⟨_, rfl⟩
  | 1, _ => exact ⟨_, rfl⟩
  | 2, _ => exact ⟨_, rfl⟩
  | 3, _ => exact ⟨_, rfl⟩
  | 4, _ => exact ⟨_, rfl⟩
  | 5, _ => exact ⟨_, rfl⟩
  | 6, _ => exact ⟨_, rfl⟩
  | 7, _ => exact ⟨_, rfl⟩
  | 8, _ => exact ⟨_, rfl⟩
  | 9, _ => exact ⟨_, rfl⟩
  | 10, _ => exact ⟨_, rfl⟩
  | 11, _ => exact ⟨_, rfl⟩
  | 12, _ => exact ⟨_, rfl⟩
  | 13, _ => exact ⟨_, rfl⟩
  | 14, _ => exact ⟨_, rfl⟩
  | 15, _ => exact ⟨_, rfl⟩
  | n + 16, h => exact absurd h (by omega)

theorem ett_item {Q : Value → Shared → Prop} {value slice : Expr} {h₀ : Heap} {L : Addr} {m : Str → Option Value} {c : Nat} {t : Tok} (F : Fr h₀ L s.heap m) (X : (Mine.mk.heap_1 w.params).In h₀) (hc : c < 16)
    (h : ∀ tok, Q (.int (14 + (c : Int)) tok) { s with toks := s.toks + 1 })
    (hs : subscripted slice false (.ref 46) (.str (sg c) t) = operate [.ref 46, .str (sg c) t] (getItem (.ref 46) (.str (sg c) t)) := by with_unfolding_all rfl) :
    wpAny (model prog w) A (subscriptTail value slice (.ref 46) (.str (sg c) t)) Q E s := by
  obtain ⟨tok, e⟩ := ett_val w.params c hc
  exact topItem_K (K := Mine.mk.heap_1 w.params) F X rfl (by repeat' (first | exact trivial | refine ⟨⟨_, _, rfl, rfl⟩, ?_⟩)) e (h tok) hs

set_option maxHeartbeats 4000000 in
theorem isterm_spec {Q : Value → Shared → Prop} {n : Int} {tk : Tok} (G : Gl w s.heap) (hA : Room A 1)
    (ret : ∀ h' tk', (∀ b o, s.heap.get? b = some o → h'.get? b = some o) → Q (.bool (decide (n < 256))) { s with heap := h', toks := tk' }) :
    wpAny (model prog w) A (call (.ref 55) [.int n tk]) Q E s := by
  refine wpAny_call (enter_fn (binds := [("x", .int n tk)]) G hA (by rfl) (by rfl) (.of_eq rfl) (locs rfl) (by decide) fun h₁ F => ?_)
  obtain ⟨p, loose, mg, mb, T⟩ := G.t
  have X := G.k
  k_steps
  exact ret _ _ F.keep
set_option maxHeartbeats 4000000 in
theorem isnont_spec {Q : Value → Shared → Prop} {n : Int} {tk : Tok} (G : Gl w s.heap) (hA : Room A 1)
    (ret : ∀ h' tk', (∀ b o, s.heap.get? b = some o → h'.get? b = some o) → Q (.bool (decide (n ≥ 256))) { s with heap := h', toks := tk' }) :
    wpAny (model prog w) A (call (.ref 62) [.int n tk]) Q E s := by
  refine wpAny_call (enter_fn (binds := [("x", .int n tk)]) G hA (by rfl) (by rfl) (.of_eq rfl) (locs rfl) (by decide) fun h₁ F => ?_)
  obtain ⟨p, loose, mg, mb, T⟩ := G.t
  have X := G.k
  k_steps
  exact ret _ _ F.keep

section
local macro_rules | `(tactic| walk_at "subscriptTail Name Name ref str") => `(tactic| (k_here; (with_unfolding_all refine' ett_item (by assumption) (by assumption) (by assumption) ?_); intro tok; (try dsimp only)))
set_option maxHeartbeats 4000000 in
theorem symbol_spec {Q : Value → Shared → Prop} {c t : Nat} {tk tk' : Tok} (G : Gl w s.heap) (hA : Room A 1) (hc : c < 16) (ht : t < 16)
    (ret : ∀ h' tok tk', (∀ b o, s.heap.get? b = some o → h'.get? b = some o) → Q (.int (256 + (14 + (c : Int)) - (14 + (t : Int))) tok) { s with heap := h', toks := tk' }) :
    wpAny (model prog w) A (call (.ref 216) [.str (sg c) tk, .str (sg t) tk']) Q E s := by
  refine wpAny_call (enter_fn (binds := [("face", .str (sg c) tk), ("top", .str (sg t) tk')]) G hA (by rfl) (by rfl) (.of_eq rfl) (locs rfl) (by decide) fun h₁ F => ?_)
  obtain ⟨p, loose, mg, mb, T⟩ := G.t
  have X := G.k
  k_steps
  exact ret _ _ _ F.keep
end
end
end Mine
end
section
open PySem PySem.W PySem.Calls PyProof.Rows
set_option maxRecDepth 100000
namespace Mine
theorem slot_search : Slot "re.Pattern" "search" "re.Pattern.search" :=
  .of (owner := "re.Pattern") (n := "search") (by rw [typeLookup_type, builtinLookup_eq_fast]; kernel_rfl) (by decide +kernel) (by decide +kernel) (by decide +kernel)
    (by first | exact .inl (by decide +kernel) | exact .inr (by decide +kernel)) (by rw [isSubtype_type]; kernel_rfl)
theorem type_search : typeOf (.builtin "re.Pattern.search") = pure (.type "method_descriptor") := by show builtinType _ = _; rw [builtinType_eq_fast]; kernel_rfl
theorem entry_search : entryFor table "re.Pattern.search" = some Builtin.«re.Pattern.search» := entryFor_of_tree (by kernel_rfl)
theorem owner_pattern : Manifest.owners.lookup (String.ofList ['n', 'r', 'e', 't', 't', 'a', 'P', '.', 'e', 'r'].reverse) = some Manifest.sig_re_Pattern := by kernel_rfl
theorem args_search (a b : Value) : argsOk "re.Pattern.search" ⟨[a, b], []⟩ := by
  unfold argsOk; rw [signature?_of (id := "re.Pattern.search") (n := ['h', 'c', 'r', 'a', 'e', 's']) (o := ['n', 'r', 'e', 't', 't', 'a', 'P', '.', 'e', 'r']) (by kernel_rfl) owner_pattern]; kernel_rfl
theorem plain_pattern : PlainAttrs "re.Pattern" :=
  ⟨⟨"object.__getattribute__", by rw [typeLookup_type, builtinLookup_eq_fast]; kernel_rfl, by decide +kernel⟩, by rw [typeLookup_type, builtinLookup_eq_fast]; kernel_rfl⟩

def drv : Nat → Sre.M → Option Sre.M
  | 0, _ => none
  | n + 1, m => if (m.runFor 4).outcome.isSome then some (m.runFor 4) else drv n (m.runFor 4)
section
variable {prog : Program} {w : World} {A : Around} {E : Value → Shared → Prop} {s : Shared}
theorem drive_of {Q : Sre.M → Shared → Prop} : ∀ (k n : Nat) (m m' : Sre.M), drv k m = some m' → Q m' s → wpAny (model prog w) A (Builtin.Re.reDrive (n + k) m) Q E s
  | 0, _, _, _, h, _ => by cases h
  | k + 1, n, m, m', h, hq => by
    show wpAny _ _ (if (m.runFor 4).outcome.isSome = true then pure (m.runFor 4) else do rule "sre.turn"; Builtin.Re.reDrive (n + k) (m.runFor 4)) _ _ _
    unfold drv at h
    split
    · rename_i e
      rw [if_pos e] at h
      cases h
      exact wpAny_pure hq
    · rename_i e
      rw [if_neg e] at h
      exact wpAny_bind (wpAny_rule (drive_of k n _ _ h hq))
def failsSoon (m : Sre.M) : Bool := match drv 40 m with
  | some m' => (match m'.outcome with | some .failed => true | _ => false)
  | none => false
theorem runToEnd_of {Q : Option Sre.M → Shared → Prop} {m : Sre.M} (h : failsSoon m = true) (hq : Q none s) : wpAny (model prog w) A (Builtin.Re.reRunToEnd m) Q E s := by
  unfold failsSoon at h
  split at h
  · rename_i m' e
    split at h
    · rename_i eo
      unfold Builtin.Re.reRunToEnd
      refine wpAny_bind ?_
      rw [show (2 : Nat) ^ 64 = (2 ^ 64 - 40) + 40 by decide]
      refine drive_of 40 _ _ _ e ?_
      refine wpAny_bind (wpAny_forIn_list _ (fun _ _ s' => s' = s) _ (fun i rest b s' hs => ?_) (fun b s' hs => ?_) _ _ rfl)
      · subst hs
        split
        · exact wpAny_bind (wpAny_rule (wpAny_pure rfl))
        · first | exact wpAny_pure rfl | (refine wpAny_bind ?_; refine wpAny_pure ?_; refine wpAny_pure ?_; rfl)
      · subst hs
        rw [eo]
        exact wpAny_pure hq
    · cases h
  · cases h

theorem re_named (x : Value) : Builtin.Re.reNamed "re.Pattern.search" "search" ["string", "pos", "endpos"] 1 [x] [] = pure [some x, none, none] := by rfl
def code67 : Array Nat := #[14, 10, 4, 1, 1, 22, 0, 31, 16, 127, 0, 13, 7, 22, 0, 31, 16, 127, 0, 1]
def code72 : Array Nat := #[14, 14, 4, 1, 1, 9, 4294966783, 0, 0, 2147483648, 0, 0, 0, 0, 0, 13, 11, 9, 4294966783, 0, 0, 2147483648, 0, 0, 0, 0, 0, 1]
def clean (code : Array Nat) (x : Str) : Bool := failsSoon (Sre.forSearch code x.cps 0 (min 0 x.cps.size) (min (2 ^ 63 - 1) x.cps.size) false)
theorem search_of {Q : Value → Shared → Prop} {P T : Addr} {oP oT : Obj} {fs : Array Value} {items : Array Value} {n : Nat} {x : Str} {t : Tok} {code : Array Nat}
    (hP : s.heap.get? P = some oP) (hc : oP.cls = .type "re.Pattern") (hf : oP.data = .fields fs) (h6 : Builtin.Re.reRawNat (fs.getD 6 .none) = 0) (h5 : fs.getD 5 .none = .ref T)
    (hT : s.heap.get? T = some oT) (hi : oT.data = .seq items n) (h2 : Builtin.Re.reRawNat (fs.getD 2 .none) = 0) (hcode : (items.map Builtin.Re.reRawOf).map (·.toNat) = code) (hcl : clean code x = true) (hq : Q .none s) :
    wpAny (model prog w) A (call (.builtin "re.Pattern.search") [.ref P, .str x t]) Q E s := by
  refine wpAny_call_entry slot_search ⟨oP, hP, hc⟩ entry_search ?_ (args_search _ _)
  unfold Builtin.«re.Pattern.search» Builtin.Re.reTarget
  refine wpAny_bind ?_
  dsimp only
  rw [re_named]
  refine wpAny_bind (wpAny_pure ?_)
  dsimp only
  refine wpAny_bind (wpAny_pure (wpAny_bind (wpAny_pure ?_)))
  unfold fieldsOf
  dsimp only
  refine wpAny_bind (wpAny_bind (wpAny_load hP ?_))
  rw [hf]
  refine wpAny_pure ?_
  unfold Builtin.Re.reTextOf asStr?
  refine wpAny_bind (wpAny_bind (wpAny_pure (wpAny_pure ?_)))
  dsimp only
  rw [h6]
  rw [if_neg (by decide), if_neg (by decide)]
  unfold Builtin.Re.reNoCollectionInside
  rw [if_neg (by decide)]
  refine wpAny_bind (wpAny_pure ?_)
  unfold Builtin.Re.reRawItems seqItems?
  rw [h5]
  dsimp only
  refine wpAny_bind (wpAny_bind (wpAny_bind (wpAny_load hT ?_)))
  rw [hi]
  refine wpAny_pure (wpAny_pure ?_)
  refine wpAny_pure ?_
  unfold Builtin.Re.reAnswer
  dsimp only
  rw [h2]
  simp only [Option.getD_some]
  rw [hcode]
  refine wpAny_bind (runToEnd_of hcl ?_)
  exact wpAny_pure ⟨_, rfl, hq⟩
end
def lows : List Str := ["a", "b", "c", "d", "e", "f", "g", "h"]
def caps : List Str := ["A", "B", "C", "D", "E", "F", "G", "H"]
theorem clean_lows : lows.all (clean code67) = true := by decide +kernel
theorem clean_caps : caps.all (clean code67) = true := by decide +kernel
theorem clean_signs : signs.all (clean code72) = true := by decide +kernel
section
variable {prog : Program} {w : World} {A : Around} {E : Value → Shared → Prop} {s : Shared}
theorem search67 {Q : Value → Shared → Prop} {x : Str} {t : Tok} (X : (Mine.mk.heap_1 w.params).In s.heap) (hcl : clean code67 x = true) (hq : Q .none s) :
    wpAny (model prog w) A (call (.builtin "re.Pattern.search") [.ref 67, .str x t]) Q E s :=
  search_of (X 67 _ (by rfl)) rfl rfl rfl rfl (X 66 _ (by rfl)) rfl rfl (by decide +kernel) hcl hq
theorem search72 {Q : Value → Shared → Prop} {x : Str} {t : Tok} (X : (Mine.mk.heap_1 w.params).In s.heap) (hcl : clean code72 x = true) (hq : Q .none s) :
    wpAny (model prog w) A (call (.builtin "re.Pattern.search") [.ref 72, .str x t]) Q E s :=
  search_of (X 72 _ (by rfl)) rfl rfl rfl rfl (X 71 _ (by rfl)) rfl rfl (by decide +kernel) hcl hq
theorem meth_search {P : Addr} {o : Obj} {pl : Sem Bool} {Q : Value × List Value → Shared → Prop} (hP : s.heap.get? P = some o) (hc : o.cls = .type "re.Pattern") (hd : o.dict = none)
    (h : Q (.builtin "re.Pattern.search", [.ref P]) s) : wpAny (model prog w) A (getMethod (.ref P) "search" pl) Q E s :=
  getMethod_builtin ⟨o, hP, hc⟩ plain_pattern slot_search type_search (fun a e => by cases e; exact ⟨o, hP, hd⟩) h
end
end Mine
end
section
open PySem PySem.W PySem.Calls PyProof.Rows
set_option maxRecDepth 100000
namespace Mine
section
variable {prog : Program} {w : World} {A : Around} {E : Value → Shared → Prop} {s : Shared}
local macro_rules | `(tactic| walk_at "getMethod ref") => `(tactic| (k_here; (with_reducible show wpAny _ _ (getMethod (Value.ref _) (Str.ofString "search") _) _ _ _); refine meth_search (Frag.In.keeps (by assumption) (Fr.keep (by assumption)) _ _ (by rfl)) rfl rfl ?_))
local macro_rules | `(tactic| walk_at "call builtin:re.Pattern.search") => `(tactic| (k_here; first | (refine search67 (Frag.In.keeps (by assumption) (Fr.keep (by assumption))) (by assumption) ?_) | (refine search72 (Frag.In.keeps (by assumption) (Fr.keep (by assumption))) (by assumption) ?_)))
set_option maxHeartbeats 4000000 in
theorem convN_spec {Q : Value → Shared → Prop} {self : Value} {x : Str} {t : Tok} (G : Gl w s.heap) (hA : Room A 2) (hcl : clean code67 x = true)
    (ret : ∀ h' tk', (∀ b o, s.heap.get? b = some o → h'.get? b = some o) → Q (.str x t) { s with heap := h', toks := tk' }) :
    wpAny (model prog w) A (call (.ref 94) [self, .str x t] [("name", .bool true)]) Q E s := by
  refine wpAny_call (enter_fn (binds := [("self", self), ("value", .str x t), ("name", .bool true)]) G (hA.le (by omega)) (by rfl) (by rfl) (.of_eq rfl) (locs rfl) (by decide) fun h₁ F => ?_)
  obtain ⟨p, loose, mg, mb, T⟩ := G.t
  have X := G.k
  k_steps
  exact ret _ _ (Fr.keep (by assumption))
set_option maxHeartbeats 4000000 in
theorem convV_spec {Q : Value → Shared → Prop} {self : Value} {x : Str} {t : Tok} (G : Gl w s.heap) (hA : Room A 2) (hcl : clean code72 x = true)
    (ret : ∀ h' tk', (∀ b o, s.heap.get? b = some o → h'.get? b = some o) → Q (.str x t) { s with heap := h', toks := tk' }) :
    wpAny (model prog w) A (call (.ref 94) [self, .str x t] [("name", .bool false)]) Q E s := by
  refine wpAny_call (enter_fn (binds := [("self", self), ("value", .str x t), ("name", .bool false)]) G (hA.le (by omega)) (by rfl) (by rfl) (.of_eq rfl) (locs rfl) (by decide) fun h₁ F => ?_)
  obtain ⟨p, loose, mg, mb, T⟩ := G.t
  have X := G.k
  k_steps
  exact ret _ _ (Fr.keep (by assumption))
end
end Mine
end
section
open PySem PySem.W PySem.Calls PyProof.Rows
set_option maxRecDepth 100000
namespace Mine

theorem fr_keeps {h₀ h h' : Heap} {L : Addr} {m : Str → Option Value} (F : Fr h₀ L h m) (k : ∀ b o, h.get? b = some o → h'.get? b = some o) : Fr h₀ L h' m :=
  ⟨F.ns.keeps k, fun b o e => k b o (F.keep b o e), F.above⟩
theorem news_keeps {h₀ h h' : Heap} {L : Addr} {news : List (Addr × Obj)} (N : News h₀ L h news) (k : ∀ b o, h.get? b = some o → h'.get? b = some o) : News h₀ L h' news :=
  fun p hp => ⟨k _ _ (N p hp).1, (N p hp).2⟩
theorem news_sub {h₀ h : Heap} {L : Addr} {news news' : List (Addr × Obj)} (N : News h₀ L h news) (k : ∀ p ∈ news', p ∈ news) : News h₀ L h news' := fun p hp => N p (k p hp)
theorem fr_get {h₀ h : Heap} {L : Addr} {m : Str → Option Value} (F : Fr h₀ L h m) : h₀.get? L = none := by
  cases q : h₀.get? L with
  | none => rfl
  | some o => exact absurd (Nat.lt_of_lt_of_le (Heap.lt_size q) F.above) (Nat.lt_irrefl _)

def itl (l : Addr) (i : Nat) (o : Obj) : Prop := o.cls = .type "list_iterator" ∧ o.data = .fields #[.ref l, .int (i : Int) 0]
section
variable {prog : Program} {w : World} {A : Around} {E : Value → Shared → Prop} {s : Shared}

theorem for_led {env : Env} {h₀ : Heap} {m : Str → Option Value} {l : Addr} {lo : Obj} {items : Array Value} {n : Nat} {news : List (Addr × Obj)} {target : Expr} {body : List Stmt} {Q : Flow → Shared → Prop}
    (hh : A.handled = none) (J : Nat → (Str → Option Value) → List (Addr × Obj) → Array GenState → Prop)
    (hlc : lo.cls = .type "list") (hld : lo.data = .seq items n)
    (F : Fr h₀ env.locals s.heap m) (N : News h₀ env.locals s.heap ((l, lo) :: news)) (hn : ∀ p ∈ news, p.1 ≠ l) (hJ : J 0 m news s.gens)
    (ht : ∀ l I i v (s : Shared) (Q : Unit → Shared → Prop) (E : Value → Shared → Prop), s.heap.IsListIter I l i → Q () s → wpAny (model prog w) A (letOwnedTupleGo target (.ref I) v) Q E s)
    (turn : ∀ i v m₁ news₁ I io h tk g, items[i]? = some v → J i m₁ news₁ g → itl l (i + 1) io → (∀ p ∈ news₁, p.1 ≠ I ∧ p.1 ≠ l) → l ≠ I → Fr h₀ env.locals h m₁ → News h₀ env.locals h ((I, io) :: (l, lo) :: news₁) →
      wpAny (model prog w) A (assign target env v) (fun _ s₂ => wpAny (model prog w) A (execs body env) (fun f s₃ => match f with
        | .ret v => Q (.ret v) s₃
        | .brk => Q .next s₃
        | _ => ∃ h' tk' g' m₂ news₂, s₃ = { s with heap := h', toks := tk', gens := g' } ∧ Fr h₀ env.locals h' m₂ ∧ News h₀ env.locals h' ((I, io) :: (l, lo) :: news₂) ∧ (∀ p ∈ news₂, p.1 ≠ I ∧ p.1 ≠ l) ∧ J (i + 1) m₂ news₂ g')
        (fun _ _ => False) s₂) (fun _ _ => False) { s with heap := h, toks := tk, gens := g })
    (done : ∀ m₁ news₁ h tk g, J items.size m₁ news₁ g → Fr h₀ env.locals h m₁ → News h₀ env.locals h ((l, lo) :: news₁) → Q .next { s with heap := h, toks := tk, gens := g }) :
    wpAny (model prog w) A (pyIter (.ref l)) (fun it s₂ => codeAny (model prog w) A (.forLoop target it body [] env) (fun r s' => match r with | .ok f => Q f s' | .error e => cameBackBy (model prog w) A env E e s') s₂) E s := by
  have hl : s.heap.IsList l items := ⟨lo, (N _ (.head _)).1, hlc, n, hld⟩
  refine wpAny_pyIter_list hl ?_
  have hL : ∀ b o, s.heap.get? b = some o → b ≠ s.heap.objs.size := fun b o e => Nat.ne_of_lt (Heap.lt_size e)
  have hI0 : h₀.get? s.heap.objs.size = none := by
    cases q : h₀.get? s.heap.objs.size with
    | none => rfl
    | some o => exact absurd (Heap.lt_size (F.keep _ _ q)) (Nat.lt_irrefl _)
  obtain ⟨oL, _, _, hoL, _⟩ := F.ns
  have hLI : env.locals ≠ s.heap.objs.size := hL _ _ hoL
  have hlI : l ≠ s.heap.objs.size := hL _ _ (N _ (.head _)).1
  generalize hI : s.heap.objs.size = I at hL hI0 hLI hlI
  refine codeAny_forLoop_any
    (fun k s' => ∃ h tk g m₁ news₁ io i, s' = { s with heap := h, toks := tk, gens := g } ∧ i ≤ items.size ∧ k = items.size - i ∧ J i m₁ news₁ g ∧ itl l i io ∧ (∀ p ∈ news₁, p.1 ≠ I ∧ p.1 ≠ l) ∧ Fr h₀ env.locals h m₁ ∧ News h₀ env.locals h ((I, io) :: (l, lo) :: news₁))
    ?_ items.size ⟨_, _, _, m, news, { cls := .type "list_iterator", data := .fields #[.ref l, .int 0 0] }, 0, rfl, Nat.zero_le _, rfl, hJ, ⟨rfl, rfl⟩, fun p hp => ⟨hL _ _ (N p (.tail _ hp)).1, hn p hp⟩, F.push _, ?_⟩
  · rintro k s' ⟨h, tk, g, m₁, news₁, io, i, rfl, hi, rfl, hJ', hio, hn₁, F₁, N₁⟩
    have hit : h.IsListIter I l i := ⟨io, (N₁ _ (.head _)).1, hio.1, hio.2⟩
    have hl₁ : h.IsList l items := ⟨lo, (N₁ _ (.tail _ (.head _))).1, hlc, n, hld⟩
    have I0 := N₁ _ (.head _)
    cases hv : items[i]? with
    | none =>
      have hsz : i = items.size := Nat.le_antisymm hi (by simpa using hv)
      refine wpAny_pyNext_list_end hh hit hl₁ hv fun h₁ he₁ => wpAny_execs_nil ?_
      subst hsz
      refine done m₁ news₁ h₁ tk g hJ' ⟨F₁.ns.extBut he₁ (Ne.symm I0.2.1), fun b o e => he₁ b o (fun q => ?_) (F₁.keep b o e), F₁.above⟩ fun p hp => ⟨he₁ _ _ ?_ (N₁ p (.tail _ hp)).1, (N₁ p (.tail _ hp)).2⟩
      · have := I0.2.2
        rw [← q, e] at this
        cases this
      · rcases List.mem_cons.mp hp with rfl | hp
        · exact hlI
        · exact (hn₁ p hp).1
    | some v =>
      have hlt : i < items.size := (Array.getElem?_eq_some_iff.mp hv).1
      refine wpAny_pyNext_list_item hit hl₁ hv fun h₁ hit₁ hs₁ => ?_
      refine ht l I (i + 1) v _ _ _ hit₁ ?_
      obtain ⟨io', ho', hc', hd'⟩ := hit₁
      have F₂ : Fr h₀ env.locals h₁ m₁ := ⟨F₁.ns.extBut hs₁.extBut (Ne.symm I0.2.1), fun b o e => (hs₁.2 b (fun q => by have := I0.2.2; rw [← q, e] at this; cases this)).trans (F₁.keep b o e), F₁.above⟩
      have N₂ : News h₀ env.locals h₁ ((I, io') :: (l, lo) :: news₁) := fun p hp => by
        rcases List.mem_cons.mp hp with rfl | hp
        · exact ⟨ho', I0.2⟩
        · refine ⟨(hs₁.2 _ ?_).trans (N₁ p (.tail _ hp)).1, (N₁ p (.tail _ hp)).2⟩
          rcases List.mem_cons.mp hp with rfl | hp
          · exact hlI
          · exact (hn₁ p hp).1
      refine wpAny_mono (turn i v m₁ news₁ I io' h₁ tk g hv hJ' ⟨hc', hd'⟩ hn₁ hlI F₂ N₂) (fun _ s₂ h₂ => wpAny_mono h₂ (fun f s₃ h₃ => ?_) fun _ _ x => x.elim) fun _ _ x => x.elim
      have fin : (∃ h' tk' g' m₂ news₂, s₃ = { s with heap := h', toks := tk', gens := g' } ∧ Fr h₀ env.locals h' m₂ ∧ News h₀ env.locals h' ((I, io') :: (l, lo) :: news₂) ∧ (∀ p ∈ news₂, p.1 ≠ I ∧ p.1 ≠ l) ∧ J (i + 1) m₂ news₂ g') →
          ∃ k', k' < items.size - i ∧ ∃ h tk g m₁ news₁ io i, s₃ = { s with heap := h, toks := tk, gens := g } ∧ i ≤ items.size ∧ k' = items.size - i ∧ J i m₁ news₁ g ∧ itl l i io ∧ (∀ p ∈ news₁, p.1 ≠ I ∧ p.1 ≠ l) ∧ Fr h₀ env.locals h m₁ ∧ News h₀ env.locals h ((I, io) :: (l, lo) :: news₁) := by
        rintro ⟨h', tk', g', m₂, news₂, rfl, F₃, N₃, hn₃, hJ₃⟩
        exact ⟨items.size - (i + 1), by omega, h', tk', g', m₂, news₂, io', i + 1, rfl, hlt, rfl, hJ₃, ⟨hc', hd'⟩, hn₃, F₃, N₃⟩
      cases f with
      | ret v => exact h₃
      | brk => exact h₃
      | next => exact fin h₃
      | cont => exact fin h₃
  · intro p hp
    rcases List.mem_cons.mp hp with rfl | hp
    · exact ⟨by subst hI; exact Heap.get?_push_size _ rfl, Ne.symm hLI, hI0⟩
    · exact ⟨Heap.get?_push_of_some _ (N p hp).1, (N p hp).2⟩
end
end Mine
end
section
open PySem PySem.W PySem.Calls PyProof.Rows
set_option maxRecDepth 100000
namespace Mine

def Keep (D : List Addr) (h h' : Heap) : Prop := ∀ b o, h.get? b = some o → b ∉ D → h'.get? b = some o
theorem hide_in {h : Heap} {D : List Addr} {b : Addr} {o : Obj} (e : (hideAll h D).get? b = some o) : h.get? b = some o ∧ b ∉ D :=
  ⟨of_hideAll _ e, fun q => by rw [hideAll_none D q] at e; cases e⟩
theorem Gl.hide {w : World} {h₀ h : Heap} {L : Addr} {m : Str → Option Value} {news : List (Addr × Obj)} (G : Gl w h₀) (F : Fr h₀ L h m) (N : News h₀ L h news) : Gl w (hideAll h (news.map (·.1))) :=
  G.keeps fun b o e => hideAll_get _ (F.keep b o e) fun q => by
    obtain ⟨p, hp, rfl⟩ := List.mem_map.mp q
    rw [(N p hp).2.2] at e; cases e
theorem fr_upd {h₀ h h' : Heap} {L : Addr} {m : Str → Option Value} {D : List Addr} (F : Fr h₀ L h m) (k : Keep D h h') (hD : ∀ b ∈ D, h₀.get? b = none) (hL : L ∉ D) : Fr h₀ L h' m :=
  ⟨F.ns.at' fun o e => k _ o e hL, fun b o e => k b o (F.keep b o e) (fun q => by rw [hD b q] at e; cases e), F.above⟩
theorem news_upd' {h₀ h h' : Heap} {L : Addr} {news : List (Addr × Obj)} {D : List Addr} (N : News h₀ L h news) (k : Keep D h h') (hD : ∀ p ∈ news, p.1 ∉ D) : News h₀ L h' news :=
  fun p hp => ⟨k _ _ (N p hp).1 (hD p hp), (N p hp).2⟩

def updL (names : List Str) (f m : Str → Option Value) : Str → Option Value := fun y => if names.contains y = true then f y else m y
theorem updL_self {names : List Str} {m m₁ : Str → Option Value} (h : ∀ y, names.contains y = false → m₁ y = m y) : m₁ = updL names m₁ m := by
  funext y
  unfold updL
  cases q : names.contains y with
  | true => rfl
  | false => rw [h y q]; rfl
theorem updL_off {names : List Str} {f m : Str → Option Value} {y : Str} (h : names.contains y = false) : updL names f m y = m y := by unfold updL; rw [h]; rfl
theorem st_off {names : List Str} {m m₁ : Str → Option Value} {x : Str} {v : Option Value} (hx : names.contains x = true) (h : ∀ y, names.contains y = false → m₁ y = m y) :
    ∀ y, names.contains y = false → (fun z => if z = x then v else m₁ z) y = m y := fun y hy => by
  show (if y = x then v else m₁ y) = m y
  rw [if_neg (fun q => by rw [q, hx] at hy; cases hy)]
  exact h y hy
theorem updL_offs {names : List Str} {f m : Str → Option Value} : ∀ y, names.contains y = false → updL names f m y = m y := fun _ h => updL_off h

def LoopEnd (h₀ : Heap) (L : Addr) (names : List Str) (m : Str → Option Value) (I l : Addr) (io lo : Obj) (J : (Str → Option Value) → List (Addr × Obj) → Array GenState → Prop) (s s₃ : Shared) : Prop :=
  ∃ h' tk' g' m₂ news₂, s₃ = { s with heap := h', toks := tk', gens := g' } ∧ Fr h₀ L h' m₂ ∧ (∀ y, names.contains y = false → m₂ y = m y) ∧ News h₀ L h' ((I, io) :: (l, lo) :: news₂) ∧ (∀ p ∈ news₂, p.1 ≠ I ∧ p.1 ≠ l) ∧ J m₂ news₂ g'
def TurnPost' (h₀ : Heap) (L : Addr) (names : List Str) (m : Str → Option Value) (I l : Addr) (io lo : Obj) (J : (Str → Option Value) → List (Addr × Obj) → Array GenState → Prop) (s : Shared) (Q : Flow → Shared → Prop) (fl : Flow) (s₃ : Shared) : Prop :=
  match fl with
  | .ret v => Q (.ret v) s₃
  | .brk => Q .next s₃
  | _ => LoopEnd h₀ L names m I l io lo J s s₃
theorem lot_name {prog : Program} {w : World} {A : Around} {E : Value → Shared → Prop} {s : Shared} {x : Str} {p : Pos} {it v : Value} {Q : Unit → Shared → Prop} (h : Q () s) : wpAny (model prog w) A (letOwnedTupleGo (.Name x p) it v) Q E s := wpAny_pure h
theorem lot_tuple {prog : Program} {w : World} {A : Around} {E : Value → Shared → Prop} {s : Shared} {elts : List Expr} {k : Nat} {p : Pos} {I l : Addr} {i : Nat} {v : Value} {Q : Unit → Shared → Prop} (hit : s.heap.IsListIter I l i) (h : Q () s) : wpAny (model prog w) A (letOwnedTupleGo (.Tuple elts k p) (.ref I) v) Q E s := by
  cases v with
  | ref T => exact wpAny_letOwnedTupleGo_listiter hit h
  | _ => exact wpAny_pure h
theorem keep_all {h h' : Heap} {L : Addr} {m : Str → Option Value} {news news' : List (Addr × Obj)} (F : Fr (hideAll h (news.map (·.1))) L h' m) (N : News (hideAll h (news.map (·.1))) L h' news') (hn : ∀ p ∈ news, h.get? p.1 = some p.2) (hs : ∀ p ∈ news, p ∈ news') :
    ∀ b o, h.get? b = some o → h'.get? b = some o := fun b o e => by
  by_cases q : b ∈ news.map (·.1)
  · obtain ⟨p, hp, rfl⟩ := List.mem_map.mp q
    rw [← e, hn p hp]
    exact (N p (hs p hp)).1
  · exact F.keep b o (hideAll_get _ e q)

section
variable {prog : Program} {w : World} {A : Around} {E : Value → Shared → Prop} {s : Shared}
theorem for_led2 {env : Env} {h₀ : Heap} {m : Str → Option Value} {l : Addr} {lo : Obj} {items : Array Value} {n : Nat} {news : List (Addr × Obj)} {target : Expr} {body : List Stmt} {Q : Flow → Shared → Prop}
    (names : List Str) (J : Nat → (Str → Option Value) → List (Addr × Obj) → Array GenState → Prop)
    (hh : A.handled = none) (hlc : lo.cls = .type "list") (hld : lo.data = .seq items n)
    (F : Fr h₀ env.locals s.heap m) (N : News h₀ env.locals s.heap ((l, lo) :: news)) (hn : ∀ p ∈ news, p.1 ≠ l) (hJ : J 0 m news s.gens)
    (ht : ∀ l I i v (s : Shared) (Q : Unit → Shared → Prop) (E : Value → Shared → Prop), s.heap.IsListIter I l i → Q () s → wpAny (model prog w) A (letOwnedTupleGo target (.ref I) v) Q E s)
    (turn : ∀ i v f news₁ I io h tk g, items[i]? = some v → J i f news₁ g → (∀ p ∈ news₁, p.1 ≠ I ∧ p.1 ≠ l) → l ≠ I → Fr h₀ env.locals h (updL names f m) → News h₀ env.locals h ((I, io) :: (l, lo) :: news₁) →
      wpAny (model prog w) A (assign target env v) (fun _ s₂ => wpAny (model prog w) A (execs body env) (TurnPost' h₀ env.locals names m I l io lo (J (i + 1)) s Q)
        (fun _ _ => False) s₂) (fun _ _ => False) { s with heap := h, toks := tk, gens := g })
    (done : ∀ f news₁ h tk g, J items.size f news₁ g → Fr h₀ env.locals h (updL names f m) → News h₀ env.locals h ((l, lo) :: news₁) → Q .next { s with heap := h, toks := tk, gens := g }) :
    wpAny (model prog w) A (pyIter (.ref l)) (fun it s₂ => codeAny (model prog w) A (.forLoop target it body [] env) (fun r s' => match r with | .ok f => Q f s' | .error e => cameBackBy (model prog w) A env E e s') s₂) E s := by
  refine for_led hh (fun i m₁ nw g => (∀ y, names.contains y = false → m₁ y = m y) ∧ J i m₁ nw g) hlc hld F N hn ⟨fun _ _ => rfl, hJ⟩ ht (fun i v m₁ news₁ I io h tk g hv hJ' hio hoff hlI F₁ N₁ => ?_) fun m₁ news₁ h tk g hJ' F₁ N₁ => ?_
  · have e := updL_self hJ'.1
    refine wpAny_mono (turn i v m₁ news₁ I io h tk g hv hJ'.2 hoff hlI (e ▸ F₁) N₁) (fun _ s₂ h₂ => wpAny_mono h₂ (fun fl s₃ h₃ => ?_) fun _ _ x => x) fun _ _ x => x
    have fin : LoopEnd h₀ env.locals names m I l io lo (J (i + 1)) s s₃ →
        ∃ h' tk' g' m₂ news₂, s₃ = { s with heap := h', toks := tk', gens := g' } ∧ Fr h₀ env.locals h' m₂ ∧ News h₀ env.locals h' ((I, io) :: (l, lo) :: news₂) ∧ (∀ p ∈ news₂, p.1 ≠ I ∧ p.1 ≠ l) ∧ ((∀ y, names.contains y = false → m₂ y = m y) ∧ J (i + 1) m₂ news₂ g') := by
      rintro ⟨h', tk', g', m₂, news₂, a, b, c, d, e, f⟩
      exact ⟨h', tk', g', m₂, news₂, a, b, d, e, c, f⟩
    cases fl with
    | ret v => exact h₃
    | brk => exact h₃
    | next => exact fin h₃
    | cont => exact fin h₃
  · exact done m₁ news₁ h tk g hJ'.2 (updL_self hJ'.1 ▸ F₁) N₁

theorem enter_fnN {R : Result → Shared → Prop} {name qual : Str} {params : Arguments} {body : List Stmt} {scope : Scope} {dV kV doc pm cdv ct oc : Value} {an od : Option Addr} {osl : Array (Option Value)} {f : Addr} {args : Args} {binds : List (Str × Value)}
    {news : List (Addr × Obj)} (hn : ∀ p ∈ news, s.heap.get? p.1 = some p.2) (G : Gl w (hideAll s.heap (news.map (·.1)))) (hA : Room A 1)
    (ho : (Mine.mk.heap_1 w.params).lookup f = some ⟨oc, od, .func (fnOf name qual params body scope dV kV doc pm an cdv ct), osl⟩) (hcd : codeIn (Mine.mk.heap_1 w.params) cdv qual = true)
    (hbind : BindsTo s (fnOf name qual params body scope dV kV doc pm an cdv ct) args binds) (hloc : ∀ y ∈ binds, scope.names.lookup y.1 = some .local)
    (hcell : ∀ x ∈ scope.names, x.2 ≠ .cell)
    (h : ∀ h₁, Fr (hideAll s.heap (news.map (·.1))) s.heap.objs.size h₁ (fun y => binds.reverse.lookup y) → News (hideAll s.heap (news.map (·.1))) s.heap.objs.size h₁ news →
      wpAny (model prog w) (A.deeper (envOf qual scope s.heap.objs.size f cdv)) (execs body (envOf qual scope s.heap.objs.size f cdv))
        (fun fl s' => R (.ok (.ret (match fl with | .ret v => v | _ => .none))) s') (fun _ _ => False) { s with heap := h₁, toks := s.toks + binds.length })
    (hco : scope.isCoroutine = false := by rfl) (hgen : scope.isGenerator = false := by rfl) (hk : scope.kind = .function := by rfl) : codeAny (model prog w) A (.call (.ref f) args) R s := by
  have G' : Gl w s.heap := G.keeps fun b o e => (hide_in e).1
  refine codeAny_call_def (fd := fnOf name qual params body scope dV kV doc pm an cdv ct) (body := body) (binds := binds) (by have := hA.dp; omega) (G'.k _ _ ho) rfl G'.lim (codeRec_of G'.k hcd) rfl hbind hcell hloc (fun h₁ hns hk₁ => ?_) hco hgen hk
  refine wpAny_mono (h h₁ ⟨hns, fun b o e => hk₁ b o (hide_in e).1, Nat.le_of_eq (hideAll_size _ _)⟩ fun p hp => ⟨hk₁ _ _ (hn p hp), Nat.ne_of_lt (Heap.lt_size (hn p hp)), hideAll_none _ (List.mem_map_of_mem hp)⟩) (fun _ _ x => x) fun _ _ x => x.elim
/-- an object of Headers: itself, its dict, its list -/
def hdObjs (P : Params) (x dx hl : Addr) (t : Tok) (n : Nat) (lo : Obj) : List (Addr × Obj) :=
  [(x, instObj 195 dx), (dx, dictOf [⟨PyData.keyHash P (Str.ofString "_headers"), .str (Str.ofString "_headers") t, .ref hl⟩] n), (hl, lo)]


def lw (j : Nat) : Str := lows.getD j default
def ltr (b : Bool) (j : Nat) : Str := if b then lows.getD j default else caps.getD j default
theorem lower_ltr : ∀ (b : Bool) (j : Nat), j < 8 → Txt.lower (ltr b j) = lw j ∧ Builtin.Str.tooLong (Txt.lower (ltr b j)).length = false := by
  intro b j hj
  have : ∀ b : Bool, ∀ j : Fin 8, Txt.lower (ltr b j) = lw j ∧ Builtin.Str.tooLong (Txt.lower (ltr b j)).length = false := by decide +kernel
  exact this b ⟨j, hj⟩
theorem clean_lw : ∀ j, j < 8 → clean code67 (lw j) = true := by
  intro j hj
  have : ∀ j : Fin 8, clean code67 (lw j) = true := by decide +kernel
  exact this ⟨j, hj⟩
theorem clean_ltr : ∀ (b : Bool) j, j < 8 → clean code67 (ltr b j) = true := by
  intro b j hj
  have : ∀ b : Bool, ∀ j : Fin 8, clean code67 (ltr b j) = true := by decide +kernel
  exact this b ⟨j, hj⟩
theorem clean_sg : ∀ c, c < 16 → clean code72 (sg c) = true := by
  intro j hj
  have : ∀ j : Fin 16, clean code72 (sg j) = true := by decide +kernel
  exact this ⟨j, hj⟩
theorem lw_inj : ∀ i j, i < 8 → j < 8 → (lw i = lw j ↔ i = j) := by
  intro i j hi hj
  have : ∀ i j : Fin 8, (lw i = lw j ↔ i.1 = j.1) := by decide +kernel
  exact this ⟨i, hi⟩ ⟨j, hj⟩
theorem sg_inj : ∀ i j, i < 16 → j < 16 → (sg i = sg j ↔ i = j) := by
  intro i j hi hj
  have : ∀ i j : Fin 16, (sg i = sg j ↔ i.1 = j.1) := by decide +kernel
  exact this ⟨i, hi⟩ ⟨j, hj⟩
end
end Mine
end
section
open PySem PySem.W PySem.Calls PyProof.Rows
set_option maxRecDepth 100000
namespace Mine

/-- a card laid in a table: its letter (small or great, of which place), its sign -/
structure KV where
  b : Bool
  j : Nat
  c : Nat
def KV.ok (k : KV) : Prop := k.j < 8 ∧ k.c < 16
def PairAt (h : Heap) (v : Value) (k : KV) : Prop := ∃ T t1 t2, v = .ref T ∧ IsTup h T #[.str (ltr k.b k.j) t1, .str (sg k.c) t2]
def Pairs (h : Heap) (items : List Value) (kvs : List KV) : Prop := items.length = kvs.length ∧ ∀ (i : Nat) (k : KV) (v : Value), kvs[i]? = some k → items[i]? = some v → k.ok ∧ PairAt h v k
def findK (j : Nat) : List KV → Option Nat
  | [] => none
  | k :: r => if k.j = j then some k.c else findK j r
def isV (o : Option Nat) (v : Value) : Prop := match o with
  | none => v = .none
  | some c => ∃ t, v = .str (sg c) t

section
variable {prog : Program} {w : World} {A : Around} {E : Value → Shared → Prop} {s : Shared}
local macro_rules | `(tactic| walk_at "call ref") => `(tactic| (k_here; (with_unfolding_all refine convN_spec (Gl.keeps (by assumption) (Fr.keep (by assumption))) (Room.deeper (by assumption) _) (by assumption) ?_); intro hz tz kz; (have Fz := fr_keeps (by assumption) kz); (have Nz := news_keeps (by assumption) kz); clear kz; (try dsimp only)))
local macro_rules | `(tactic| walk_at "call builtin:str.lower") => `(tactic| (k_here; (refine KXw.lower (by assumption) (by assumption) ?_); intro tz kz; (try dsimp only)))
set_option maxHeartbeats 4000000 in
theorem get_spec {Q : Value → Shared → Prop} {x dx hl : Addr} {t tn : Tok} {n ep : Nat} {items : List Value} {kvs : List KV} {b : Bool} {j : Nat} (hj : j < 8)
    (hn : ∀ p ∈ hdObjs w.params x dx hl t n (listOf items.toArray ep), s.heap.get? p.1 = some p.2) (G : Gl w (hideAll s.heap ((hdObjs w.params x dx hl t n (listOf items.toArray ep)).map (·.1)))) (hA : Room A 3)
    (hp : Pairs (hideAll s.heap ((hdObjs w.params x dx hl t n (listOf items.toArray ep)).map (·.1))) items kvs)
    (ret : ∀ v h' tk', isV (findK j kvs) v → (∀ b o, s.heap.get? b = some o → h'.get? b = some o) → Q v { s with heap := h', toks := tk' }) :
    wpAny (model prog w) A (call (.ref 142) [.ref x, .str (ltr b j) tn]) Q E s := by
  refine wpAny_call (enter_fnN (binds := [("self", .ref x), ("name", .str (ltr b j) tn), ("default", .none)]) hn G (hA.le (by omega)) (by rfl) (by rfl) (.of_defaults (T := 135) rfl ((G.keeps fun b o e => (hide_in e).1).k 135 _ (by rfl)) rfl rfl rfl) (locs rfl) (by decide) fun h₁ F N => ?_)
  obtain ⟨p, loose, mg, mb, T⟩ := G.t
  have X := G.k
  unfold hdObjs at N
  obtain ⟨hlow, hshort⟩ := lower_ltr b j hj
  have hcl := clean_lw j hj
  k_steps
  refine wpAny_For ?_
  k_steps
  (rename Fr _ _ _ _ => F9)
  (rename News _ _ _ _ => N9)
  have hx : x ≠ hl := fun e => by
    have h1 := hn (x, _) (.head _)
    have h2 := hn (hl, _) (.tail _ (.tail _ (.head _)))
    rw [e] at h1
    rw [h1] at h2
    exact absurd (congrArg (Option.map Obj.cls) h2) (by simp [W.listOf, instObj, dictOf])
  have hdx : dx ≠ hl := fun e => by
    have h1 := hn (dx, _) (.tail _ (.head _))
    have h2 := hn (hl, _) (.tail _ (.tail _ (.head _)))
    rw [e] at h1
    rw [h1] at h2
    exact absurd (congrArg (Option.map Obj.cls) h2) (by simp [W.listOf, instObj, dictOf])
  refine for_led2 (l := hl) (lo := listOf items.toArray ep) (items := items.toArray) (n := ep) (news := [(x, instObj 195 dx), (dx, dictOf [⟨PyData.keyHash w.params (Str.ofString "_headers"), .str (Str.ofString "_headers") t, .ref hl⟩] n)]) ["k", "v"]
    (fun i f nw g => nw = [(x, instObj 195 dx), (dx, dictOf [⟨PyData.keyHash w.params (Str.ofString "_headers"), .str (Str.ofString "_headers") t, .ref hl⟩] n)] ∧ g = s.gens ∧ findK j kvs = findK j (kvs.drop i))
    (by exact hA.hd) rfl rfl F9 (news_sub N9 (by intro p hp; simp only [List.mem_cons, List.not_mem_nil, or_false] at hp ⊢; rcases hp with h | h | h <;> simp [h])) (by intro p hp; simp only [List.mem_cons, List.not_mem_nil, or_false] at hp; rcases hp with h | h <;> simp [h, hx, hdx])
    ⟨rfl, rfl, rfl⟩ (fun l I i v s Q E hit hq => ?_) (fun i v f news₁ I io h tk g hv hJ hoff hlI F₁ N₁ => ?_) fun f news₁ h tk g hJ F₁ N₁ => ?_
  · exact lot_tuple hit hq
  · obtain ⟨rfl, rfl, hfind⟩ := hJ
    have hv' : items[i]? = some v := by simpa using hv
    obtain ⟨kv, hkv⟩ : ∃ kv, kvs[i]? = some kv := by
      have hlt : i < items.length := (List.getElem?_eq_some_iff.mp hv').1
      exact ⟨_, List.getElem?_eq_getElem (by rw [← hp.1]; exact hlt)⟩
    obtain ⟨⟨hk1, hk2⟩, T0, t1, t2, rfl, hT0⟩ := hp.2 i kv v hkv hv'
    obtain ⟨hlow', hshort'⟩ := lower_ltr kv.b kv.j hk1
    have hdrop : kvs.drop i = kv :: kvs.drop (i + 1) := by
      obtain ⟨hlt, he⟩ := List.getElem?_eq_some_iff.mp hkv
      rw [List.drop_eq_getElem_cons hlt, he]
    have hbe : (lw kv.j == lw j) = decide (kv.j = j) := by
      rw [Bool.eq_iff_iff, beq_iff_eq, decide_eq_true_eq]; exact lw_inj _ _ hk1 hj
    rw [hdrop, findK] at hfind
    refine unpackN_ F₁ N₁ (hT0.keeps F₁.keep) hA.hd rfl rfl fun h' F₂ N₂ => ?_
    clear F9 N9 F₁ N₁
    k_steps
    · rename (lw kv.j == lw j) = true => he
      rw [hbe, decide_eq_true_eq] at he
      rw [if_pos he] at hfind
      exact ret _ _ _ (by rw [hfind]; exact ⟨_, rfl⟩) (keep_all (news := hdObjs w.params x dx hl t n (W.listOf items.toArray ep)) (by assumption) (by assumption) hn (by unfold hdObjs; intro p hp; simp only [List.mem_cons, List.not_mem_nil, or_false] at hp ⊢; rcases hp with h | h | h <;> simp [h]))
    · rename (lw kv.j == lw j) = false => he
      rw [hbe] at he
      rw [if_neg (of_decide_eq_false he)] at hfind
      exact ⟨_, _, _, _, _, rfl, (by assumption), st_off rfl (st_off rfl updL_offs), (by assumption), hoff, rfl, rfl, hfind⟩
  · obtain ⟨rfl, rfl, hfind⟩ := hJ
    clear F9 N9
    k_steps
    exact ret _ _ _ (by rw [hfind]; simp [hp.1, findK]; rfl) (keep_all (news := hdObjs w.params x dx hl t n (W.listOf items.toArray ep)) (by assumption) (by assumption) hn (by unfold hdObjs; intro p hp; simp only [List.mem_cons, List.not_mem_nil, or_false] at hp ⊢; rcases hp with h | h | h <;> simp [h]))
end
end Mine
end
section
open PySem PySem.W PySem.Calls PyProof.Rows
set_option maxRecDepth 100000
namespace Mine

/-- the walker stands still here -/
def Halt (P : Prop) : Prop := P
theorem Halt.mk {P : Prop} (h : Halt P) : P := h
/-- the tests of a comprehension's turn -/
noncomputable def askIfs (ifs : List Expr) (env : Env) : Sem Bool :=
  forIn ifs true fun c r => if r = true then do let ok ← isTrue c env (eval c env); pure (ForInStep.yield ok) else pure (ForInStep.yield r)
/-- another state that keeps what X tells of -/
def Near (X : Addr → Prop) (C : Addr) (s s' : Shared) : Prop :=
  ∃ h' tk m', s' = { s with heap := h', toks := tk } ∧ h'.Ns C m' ∧ ∀ b o, X b → s.heap.get? b = some o → h'.get? b = some o
/-- one turn of a comprehension -/
def CompTurn (prog : Program) (w : World) (A : Around) (cenv : Env) (target : Expr) (ifs : List Expr) (elt : Expr) (J : Nat → List Value → Prop) (i : Nat) (v : Value) (ys : List Value) (T : Shared → Prop) (s₁ : Shared) : Prop :=
  wpAny (model prog w) A (assign target cenv v) (fun _ s₂ => wpAny (model prog w) A (askIfs ifs cenv) (fun ok s₃ =>
    if ok = true then wpAny (model prog w) A (eval elt cenv) (fun y s₄ => J (i + 1) (ys ++ [y]) ∧ T s₄) (fun _ _ => False) s₃
    else J (i + 1) ys ∧ T s₃) (fun _ _ => False) s₂) (fun _ _ => False) s₁

section
variable {prog : Program} {w : World} {A : Around} {R : Result → Shared → Prop} {s : Shared}
theorem codeAny_compLoop_own {elt target iter : Expr} {ifs : List Expr} {scope : Scope} {pos : Pos} {I D : Addr} {fp wr : List Addr} {n : Nat} {P : Nat → Value → Prop} {St : Nat → Heap → Prop}
    {cenv : Env} {m : Str → Option Value} (W : Walks prog w A I fp wr n P St) (J : Nat → List Value → Prop) (X : Addr → Prop) (hXD : X D) (hXf : ∀ b ∈ fp, X b) (hXs : ∀ b o, s.heap.get? b = some o → b ≠ cenv.locals → X b)
    (hlet : ∀ i v (s : Shared) (Q : Unit → Shared → Prop) (E : Value → Shared → Prop), St i s.heap → Q () s → wpAny (model prog w) A (letOwnedTupleGo target (.ref I) v) Q E s)
    (hDC : D ≠ cenv.locals) (hDf : D ∉ fp) (hCf : cenv.locals ∉ fp)
    (hst : St 0 s.heap) (hacc : s.heap.PlainList D #[]) (hn : s.heap.Ns cenv.locals m) (hJ : J 0 [])
    (turn : ∀ i v h tk m₁ ys ep, P i v → J i ys → h.Ns cenv.locals m₁ → St (i + 1) h → h.get? D = some (listOf ys.toArray ep) → (∀ b o, b ≠ cenv.locals → b ∉ wr → b ≠ D → s.heap.get? b = some o → h.get? b = some o) →
      CompTurn prog w A cenv target ifs elt J i v ys (Near X cenv.locals { s with heap := h, toks := tk }) { s with heap := h, toks := tk })
    (hR : ∀ h' tk m' ys, h'.Ns cenv.locals m' → h'.PlainList D ys → J n ys.toList → (∀ b o, b ≠ cenv.locals → b ∉ wr → b ≠ D → s.heap.get? b = some o → h'.get? b = some o) → R (.ok .next) { s with heap := h', toks := tk })
    (hsz : n ≤ sizeLine) :
    codeAny (model prog w) A (.compLoop (.ListComp elt [⟨target, iter, ifs, 0⟩] scope pos) 0 (.ref I) (.ref D) cenv) R s := by
  refine codeAny_loop rfl (fun k s' => ∃ h' tk m' ys i, s' = { s with heap := h', toks := tk } ∧ St i h' ∧ h'.PlainList D ys ∧ h'.Ns cenv.locals m' ∧ J i ys.toList ∧ i ≤ n ∧ ys.size ≤ i ∧ k = n + 1 - i ∧
      (∀ b o, b ≠ cenv.locals → b ∉ wr → b ≠ D → s.heap.get? b = some o → h'.get? b = some o)) (fun k s' hI => ?_) (n + 1)
    ⟨s.heap, s.toks, m, #[], 0, rfl, hst, hacc, hn, hJ, Nat.zero_le _, Nat.le_refl _, rfl, fun _ _ _ _ _ e => e⟩
  show wpAny _ _ ((compTurn (.ListComp elt [⟨target, iter, ifs, 0⟩] scope pos) 0 (.ref I) (.ref D) cenv).onRaise (fun x => do noteFrame x cenv; theTreesLotGoes x)) _ _ _
  refine wpAny_noted ?_
  rw [compTurn_list]
  obtain ⟨H, tk, m', ys, i, rfl, hst', hacc', hn', hJ', hi, hys, rfl, hk⟩ := hI
  have hCw : cenv.locals ∉ wr := fun h => hCf (W.sub _ h)
  have hDw : D ∉ wr := fun h => hDf (W.sub _ h)
  refine wpAny_bind (wpAny_standAt (wpAny_bind ?_))
  by_cases hlt : i < n
  · refine W.item i _ _ _ hlt hst' fun v h₁ tk₁ hPv hst₁ hk₁ => ?_
    refine wpAny_bind (hlet _ v _ _ _ hst₁ (wpAny_bind ?_))
    obtain ⟨ep, hacc₁⟩ := hacc'.at fun o e => hk₁ D o hDw e
    refine wpAny_mono (turn i v h₁ tk₁ m' ys.toList ep hPv hJ' (hn'.at' fun o e => hk₁ _ o hCw e) hst₁ (by simpa using hacc₁) fun b o hbC hbf hbD e => hk₁ b o hbf (hk b o hbC hbf hbD e)) (fun _ s₂ h₂ => ?_) fun _ _ e => e.elim
    refine wpAny_bind (wpAny_mono h₂ (fun ok s₃ h₃ => ?_) fun _ _ e => e.elim)
    cases ok with
    | false =>
      obtain ⟨hJ₃, h', tk', m₃, rfl, hn₃, hk₃⟩ := h₃
      refine wpAny_pure ⟨rfl, n + 1 - (i + 1), by omega, h', tk', m₃, ys, i + 1, rfl, ?_, ?_, hn₃, hJ₃, hlt, by omega, rfl, ?_⟩
      · exact W.frame _ _ _ hst₁ fun b hb o e => hk₃ b o (hXf b hb) e
      · exact hacc'.at fun o e => hk₃ D o hXD (hk₁ D o hDw e)
      · exact fun b o hbC hbf hbD e => hk₃ b o (hXs b o e hbC) (hk₁ b o hbf (hk b o hbC hbf hbD e))
    | true =>
      refine wpAny_bind (wpAny_bind (wpAny_mono h₃ (fun y s₄ h₄ => ?_) fun _ _ e => e.elim))
      obtain ⟨hJ₃, h', tk', m₃, rfl, hn₃, hk₃⟩ := h₄
      have hacc₃ : h'.PlainList D ys := hacc'.at fun o e => hk₃ D o hXD (hk₁ D o hDw e)
      refine wpAny_bind (wpAny_list_append_plain (hsz := by omega) hacc₃ fun h₅ hl₅ hs₅ => ?_)
      refine wpAny_pure (wpAny_pure ⟨rfl, n + 1 - (i + 1), by omega, h₅, tk', m₃, ys.push y, i + 1, rfl, ?_, hl₅, hn₃.sameBut hs₅ (Ne.symm hDC), ?_, hlt, by simp; omega, rfl, ?_⟩)
      · exact W.frame _ _ _ hst₁ fun b hb o e => hs₅.extBut b o (fun q => hDf (q ▸ hb)) (hk₃ b o (hXf b hb) e)
      · simpa using hJ₃
      · exact fun b o hbC hbf hbD e => hs₅.extBut b o hbD (hk₃ b o (hXs b o e hbC) (hk₁ b o hbf (hk b o hbC hbf hbD e)))
  · have hin : i = n := by omega
    subst hin
    refine W.done _ _ _ hst' fun h₁ tk₁ hk₁ => wpAny_pure ?_
    exact hR h₁ tk₁ m' ys (hn'.at' fun o e => hk₁ _ o hCw e) (hacc'.at fun o e => hk₁ _ o hDw e) hJ' fun b o hbC hbf hbD e => hk₁ b o hbf (hk b o hbC hbf hbD e)
end

section
variable {prog : Program} {w : World} {A : Around} {E : Value → Shared → Prop} {env : Env}
/-- what a comprehension over an iterator wants: a walk, an invariant, turns, and what follows -/
def Blk (prog : Program) (w : World) (A : Around) (env : Env) (scope : Scope) (cl : List (Str × Addr)) (target : Expr) (ifs : List Expr) (elt : Expr) (Fin : Value → Shared → Prop) (it : Value) (s₂ : Shared) : Prop :=
  ∃ I fp wr n P St J, it = .ref I ∧ Walks prog w A I fp wr n P St ∧ n ≤ sizeLine ∧ St 0 s₂.heap ∧ (∀ b ∈ fp, b < s₂.heap.objs.size) ∧
    (∀ i v (s : Shared) (Q : Unit → Shared → Prop) (E : Value → Shared → Prop), St i s.heap → Q () s → wpAny (model prog w) A (letOwnedTupleGo target (.ref I) v) Q E s) ∧ J 0 [] ∧
    (∀ C D i v h tk m₁ ys ep, s₂.heap.objs.size ≤ C → P i v → J i ys → h.Ns C m₁ → St (i + 1) h → s₂.heap.get? D = none → D ≠ C → D ∉ fp → h.get? D = some (listOf ys.toArray ep) → (∀ b o, b ∉ wr → s₂.heap.get? b = some o → h.get? b = some o) →
      CompTurn prog w A (compEnvC scope cl C env) target ifs elt J i v ys (Near (fun b => b = D ∨ b ∈ fp ∨ ∃ o, s₂.heap.get? b = some o) C { s₂ with heap := h, toks := tk }) { s₂ with heap := h, toks := tk }) ∧
    (∀ D h' tk ys ep, s₂.heap.get? D = none → h'.get? D = some (listOf ys.toArray ep) → J n ys → (∀ b o, b ∉ wr → s₂.heap.get? b = some o → h'.get? b = some o) → Fin (.ref D) { s₂ with heap := h', toks := tk })

theorem comp_block_own {elt target iter : Expr} {ifs : List Expr} {scope : Scope} {cl : List (Str × Addr)} {pos : Pos} {s₂ : Shared} {it : Value} {Fin : Value → Shared → Prop} {RR : Value → Addr → Result → Shared → Prop}
    (hcell : ∀ y ∈ scope.names, y.2 ≠ .cell) (hkind : scope.kind = .function) (hb : Blk prog w A env scope cl target ifs elt Fin it s₂)
    (hRR : ∀ D C s' m, D ≠ C → s'.heap.Ns C m → (∃ o, s'.heap.get? D = some o) → (∀ a o, s₂.heap.get? a = some o → a ≠ D ∧ a ≠ C) →
      (∀ h'', Heap.SameBut C s'.heap h'' → Fin (.ref D) { s' with heap := h'' }) → RR (.ref D) C (.ok .next) s') :
    wpAny (model prog w) A (newList []) (fun acc s₃ => wpAny (model prog w) A (newFunctionEnv scope env.globals cl [] env.qual none .none (some env)) (fun cenv s₄ =>
      codeAny (model prog w) A (.compStart (.ListComp elt [⟨target, iter, ifs, 0⟩] scope pos) 0 it acc { cenv with scope := relabel scope env }) (RR acc cenv.locals) s₄) E s₃) E s₂ := by
  obtain ⟨I, fp, wr, n, P, St, J, rfl, W, hsz, hst, hfp, hlet, hJ, turn, hfin⟩ := hb
  refine wpAny_newObj_type (wpAny_newFunctionEnv hcell (by intro y hy; simp at hy) (fun h₁ hns₁ hsb₁ => ?_) hkind)
  dsimp only at hns₁ hsb₁ ⊢
  generalize hH2 : s₂.heap.push { cls := .type "list", dict := none, data := .seq ([] : List Value).toArray } = H2 at hns₁ hsb₁ ⊢
  have hC : H2.objs.size = s₂.heap.objs.size + 1 := by rw [← hH2, Heap.size_push]
  have hDC : s₂.heap.objs.size ≠ H2.objs.size := by rw [hC]; exact Nat.ne_of_lt (Nat.lt_succ_self _)
  have hCle : s₂.heap.objs.size ≤ H2.objs.size := by rw [hC]; exact Nat.le_succ _
  have below : ∀ b, b < s₂.heap.objs.size → b ≠ H2.objs.size ∧ b ≠ s₂.heap.objs.size := fun b hb => ⟨by rw [hC]; exact Nat.ne_of_lt (Nat.lt_succ_of_lt hb), Nat.ne_of_lt hb⟩
  have hDf : s₂.heap.objs.size ∉ fp := fun hm => Nat.lt_irrefl _ (hfp _ hm)
  have hCf : H2.objs.size ∉ fp := fun hm => by have := hfp _ hm; rw [hC] at this; exact Nat.lt_irrefl _ (Nat.lt_of_succ_lt this)
  have old : ∀ b o, s₂.heap.get? b = some o → h₁.get? b = some o := fun b o e => hsb₁.extBut b o (below b (Heap.lt_size e)).1 (Heap.get?_push_of_some _ (hH2 ▸ Heap.get?_push_of_some _ e))
  have hacc : h₁.PlainList s₂.heap.objs.size #[] := ⟨_, hsb₁.extBut _ _ hDC (Heap.get?_push_of_some _ (hH2 ▸ Heap.get?_push_size _ rfl))⟩
  have hst₁ : St 0 h₁ := W.frame _ _ _ hst fun b _ o e => old b o e
  have fresh : ∀ a, s₂.heap.objs.size ≤ a → s₂.heap.get? a = none := fun a ha => by
    cases e : s₂.heap.get? a with
    | none => rfl
    | some o' => exact absurd (Heap.lt_size e) (Nat.not_lt.mpr ha)
  have loop : ∀ s₃ : Shared, s₃ = { s₂ with heap := h₁, toks := s₂.toks + ([] : List (Str × Value)).length } →
      codeAny (model prog w) A (.compLoop (.ListComp elt [⟨target, iter, ifs, 0⟩] scope pos) 0 (.ref I) (.ref s₂.heap.objs.size) (compEnvC scope cl H2.objs.size env))
        (RR (.ref s₂.heap.objs.size) H2.objs.size) s₃ := by
    rintro s₃ rfl
    refine codeAny_compLoop_own (hsz := hsz) (cenv := compEnvC scope cl H2.objs.size env) W J (fun b => b = s₂.heap.objs.size ∨ b ∈ fp ∨ ∃ o, s₂.heap.get? b = some o) (.inl rfl) (fun b hb => .inr (.inl hb)) ?_ hlet hDC hDf hCf hst₁ hacc hns₁ hJ
      (fun i v h tk m₁ ys ep hv hJ' hn hst' hD' hk => turn _ _ i v h tk m₁ ys ep hCle hv hJ' hn hst' (fresh _ (Nat.le_refl _)) hDC hDf hD' fun b o hbf e => hk b o (below b (Heap.lt_size e)).1 hbf (below b (Heap.lt_size e)).2 (old b o e)) fun h' tk m' ys hn hpl hJ' hk => ?_
    · intro b o e hbC
      by_cases hbD : b = s₂.heap.objs.size
      · exact .inl hbD
      · dsimp only at e
        have e1 : H2.get? b = some o := (Heap.get?_push_ne _ _ _ hbC).symm.trans ((hsb₁.2 b hbC).symm.trans e)
        rw [← hH2] at e1
        exact .inr (.inr ⟨o, (Heap.get?_push_ne _ _ _ hbD).symm.trans e1⟩)
    obtain ⟨ep, hpl⟩ := hpl
    refine hRR _ _ _ m' hDC hn ⟨_, hpl⟩ (fun a o e => ⟨(below a (Heap.lt_size e)).2, (below a (Heap.lt_size e)).1⟩) fun h'' hs'' => ?_
    refine hfin _ h'' tk ys.toList ep (fresh _ (Nat.le_refl _)) ?_ hJ' fun b o hbf e => hs''.extBut b o (below b (Heap.lt_size e)).1 (hk b o (below b (Heap.lt_size e)).1 hbf (below b (Heap.lt_size e)).2 (old b o e))
    exact hs''.extBut _ _ hDC hpl
  exact codeAny_compStart_list (loop _ rfl) (W.self 0 _ _ _ hst₁ (loop _ rfl))

theorem comp_eval {s : Shared} {elt target iter : Expr} {ifs : List Expr} {scope : Scope} {cl : List (Str × Addr)} {pos : Pos} {Q : Value → Shared → Prop}
    (hclos : closureFor scope env = pure cl) (hcell : ∀ y ∈ scope.names, y.2 ≠ .cell) (hkind : scope.kind = .function)
    (hnames : ∀ y ∈ scope.names, y.2 = .local → scope.names.lookup y.1 = some .local)
    (h : wpAny (model prog w) A (eval iter env) (fun xv s₁ => Halt (wpAny (model prog w) A (pyIter xv) (fun it s₂ => (∃ m, s₂.heap.Ns env.locals m) ∧ Blk prog w A env scope cl target ifs elt Q it s₂) E s₁)) E s)
    (hs : ∀ x, foldedSetIterable iter env x = pure x := by intro _; rfl) :
    wpAny (model prog w) A (eval (.ListComp elt [⟨target, iter, ifs, 0⟩] scope pos) env) Q E s := by
  rw [eval_ListComp]
  refine wpAny_comprehension_free (use := none) rfl hs hclos hkind hnames (wpAny_mono h (fun xv s₁ h₁ => wpAny_mono h₁ (fun it s₂ h₂ => ?_) fun _ _ e => e) fun _ _ e => e)
  exact comp_block_own (RR := fun acc C => compPost (model prog w) A E none Q acc C) hcell hkind h₂.2 fun D C s' m hDC hn _ _ hf => ⟨m, hn, hf⟩

end
end Mine
end
section
open PySem PySem.W PySem.Calls PyProof.Rows
set_option maxRecDepth 100000
namespace Mine

section
variable {prog : Program} {w : World} {A : Around} {E : Value → Shared → Prop} {env : Env}
/-- what follows a comprehension whose list is stored at a local name -/
def Store (L : Addr) (y : Str) (Q : Flow → Shared → Prop) (v : Value) (s' : Shared) : Prop :=
  ∀ h₃ tk, (∀ m, s'.heap.Ns L m → h₃.Ns L (fun z => if z = y then some v else m z)) → (∀ b o, b ≠ L → s'.heap.get? b = some o → h₃.get? b = some o) → Q .next { s' with heap := h₃, toks := tk }
theorem Store.of {L : Addr} {y : Str} {Q : Flow → Shared → Prop} {v : Value} {s' : Shared} {h₀ : Heap} {m : Str → Option Value} {news : List (Addr × Obj)} (F : Fr h₀ L s'.heap m) (N : News h₀ L s'.heap news)
    (h : ∀ h₃ tk, Fr h₀ L h₃ (fun z => if z = y then some v else m z) → News h₀ L h₃ news → Q .next { s' with heap := h₃, toks := tk }) : Store L y Q v s' :=
  fun h₃ tk hn hk => h h₃ tk ⟨hn m F.ns, fun b o e => hk b o (Nat.ne_of_lt (Nat.lt_of_lt_of_le (Heap.lt_size e) F.above)) (F.keep b o e), F.above⟩ fun p hp => ⟨hk _ _ (N p hp).2.1 (N p hp).1, (N p hp).2⟩

theorem comp_store {s : Shared} {elt target iter : Expr} {ifs : List Expr} {scope : Scope} {cl : List (Str × Addr)} {y : Str} {py : Pos} {pos spos : Pos} {Q : Flow → Shared → Prop}
    (hsw : swapsWith (.ListComp elt [⟨target, iter, ifs, 0⟩] scope pos) (some (.Name y py)) spos.line env = pure true)
    (hclos : closureFor scope env = pure cl) (hcell : ∀ y ∈ scope.names, y.2 ≠ .cell) (hkind : scope.kind = .function)
    (hnames : ∀ y ∈ scope.names, y.2 = .local → scope.names.lookup y.1 = some .local)
    (hy : env.kindOf y = some .local) (hp : (env.scope.kind == .class || (env.scope.kind == .module && env.locals != env.globals)) = false)
    (h : wpAny (model prog w) A (eval iter env) (fun xv s₁ => Halt (wpAny (model prog w) A (pyIter xv) (fun it s₂ => (∃ m, s₂.heap.Ns env.locals m) ∧ Blk prog w A env scope cl target ifs elt (fun v s' => (∃ m', s'.heap.Ns env.locals m') ∧ Store env.locals y Q v s') it s₂) E s₁)) E s)
    (hs : ∀ x, foldedSetIterable iter env x = pure x := by intro _; rfl) :
    wpAny (model prog w) A (exec (.Assign [.Name y py] (.ListComp elt [⟨target, iter, ifs, 0⟩] scope pos) spos) env) Q E s := by
  rw [exec_Assign_Name_used _ _ _ _ hsw]
  refine wpAny_bind (wpAny_standAt (wpAny_bind ?_))
  show wpAny _ A (do let _ ← comprehension (.ListComp elt [⟨target, iter, ifs, 0⟩] scope pos) scope env _ (newList []) false (eval iter env) (some (assign (.Name y py) env))) _ _ s
  refine wpAny_bind (wpAny_mono (wpAny_comprehension_free (use := some (assign (.Name y py) env)) (Q := fun _ s' => Q .next s') rfl hs hclos hkind hnames
    (wpAny_mono h (fun xv s₁ h₁ => wpAny_mono h₁ (fun it s₂ h₂ => ?_) fun _ _ e => e) fun _ _ e => e)) (fun _ s' hq => wpAny_pure (wpAny_pure hq)) fun _ _ e => e)
  obtain ⟨⟨m, hm⟩, hb⟩ := h₂
  refine comp_block_own (RR := fun acc C => compPost (model prog w) A E (some (assign (.Name y py) env)) (fun _ s' => Q .next s') acc C) hcell hkind hb fun D C s' m₁ hDC hn hDo hfr hf => ?_
  obtain ⟨oL, _, _, hoL, _⟩ := id hm
  have hLC : env.locals ≠ C := (hfr _ _ hoL).2
  have hLD : env.locals ≠ D := (hfr _ _ hoL).1
  obtain ⟨⟨m', hm'⟩, hst⟩ := hf (s'.heap.hide C) ⟨Heap.hide_size _ _, fun b hb => Heap.hide_ne _ hb⟩
  have hm'' : s'.heap.Ns env.locals m' := hm'.at' fun o e => (Heap.hide_ne _ hLC) ▸ e
  show wpAny _ A (assign (.Name y py) env (.ref D)) _ _ _
  refine wpAny_assign_Name (wpAny_storeName_local hy hm'' (fun h₂ hn₂ hs₂ => ?_) hp)
  refine ⟨m₁, hn.sameBut hs₂ (Ne.symm hLC), fun h₃ hs₃ => ?_⟩
  refine hst h₃ _ (fun m hnm => ?_) fun b o hbL e => ?_
  · have hnm' : s'.heap.Ns env.locals m := hnm.at' fun o e => (Heap.hide_ne _ hLC) ▸ e
    obtain ⟨o1, es1, ep1, g1, d1, k1, e1⟩ := hnm'
    obtain ⟨o2, es2, ep2, g2, d2, k2, e2⟩ := hm''
    have : m = m' := by
      funext z
      rw [g1] at g2; cases g2
      rw [d1] at d2; cases d2
      rw [← e1, ← e2]
    rw [this]
    exact hn₂.sameBut hs₃ hLC
  · have hbC : b ≠ C := fun q => by rw [q] at e; dsimp only at e; rw [Heap.hide_self] at e; cases e
    dsimp only at e
    rw [Heap.hide_ne _ hbC] at e
    exact hs₃.extBut b o hbC (hs₂.extBut b o hbL e)

def TEnd (base : Heap) (C : Addr) (nw : List (Addr × Obj)) (s s' : Shared) : Prop :=
  ∃ h' tk' m', s' = { s with heap := h', toks := tk' } ∧ Fr base C h' m' ∧ News base C h' nw
theorem CompTurn.mono {cenv : Env} {target : Expr} {ifs : List Expr} {elt : Expr} {J : Nat → List Value → Prop} {i : Nat} {v : Value} {ys : List Value} {T T' : Shared → Prop} {s₁ : Shared}
    (h : CompTurn prog w A cenv target ifs elt J i v ys T s₁) (k : ∀ s', T s' → T' s') : CompTurn prog w A cenv target ifs elt J i v ys T' s₁ := by
  refine wpAny_mono h (fun _ s₂ h₂ => wpAny_mono h₂ (fun ok s₃ h₃ => ?_) fun _ _ e => e) fun _ _ e => e
  cases ok with
  | false => exact ⟨h₃.1, k _ h₃.2⟩
  | true => exact wpAny_mono h₃ (fun y s₄ h₄ => ⟨h₄.1, k _ h₄.2⟩) fun _ _ e => e
theorem near_of {base h : Heap} {C : Addr} {m : Str → Option Value} {nw : List (Addr × Obj)} {s s' : Shared} {X : Addr → Prop} {tk : Nat} (F : Fr base C h m) (N : News base C h nw)
    (hX : ∀ b, X b → (∃ o, base.get? b = some o) ∨ ∃ o, (b, o) ∈ nw) (t : TEnd base C nw s s') : Near X C { s with heap := h, toks := tk } s' := by
  obtain ⟨h', tk', m', rfl, F', N'⟩ := t
  refine ⟨h', tk', m', rfl, F'.ns, fun b o hb e => ?_⟩
  dsimp only at e
  rcases hX b hb with ⟨o', q⟩ | ⟨o', q⟩
  · rw [F.keep _ _ q] at e; cases e; exact F'.keep _ _ q
  · rw [(N _ q).1] at e; cases e; exact (N' _ q).1

theorem up_hide {h₀ h : Heap} {L : Addr} {m : Str → Option Value} {news : List (Addr × Obj)} (F : Fr h₀ L h m) (N : News h₀ L h news) : ∀ b o, h₀.get? b = some o → (hideAll h (news.map (·.1))).get? b = some o :=
  fun b o e => hideAll_get _ (F.keep b o e) fun q => by
    obtain ⟨p, hp, rfl⟩ := List.mem_map.mp q
    rw [(N p hp).2.2] at e; cases e
theorem le8 {n : Nat} (h : n ≤ 8) : n ≤ sizeLine := Nat.le_trans h (by decide)
theorem askIfs_nil {env : Env} {s : Shared} {Q : Bool → Shared → Prop} (h : Q true s) : wpAny (model prog w) A (askIfs [] env) Q E s := wpAny_pure h
theorem askIfs_one {env : Env} {c : Expr} {s : Shared} {Q : Bool → Shared → Prop} (h : wpAny (model prog w) A (isTrue c env (eval c env)) Q E s) : wpAny (model prog w) A (askIfs [c] env) Q E s := wpAny_tests_one h

theorem src_list {s : Shared} {elt target : Expr} {ifs : List Expr} {scope : Scope} {cl : List (Str × Addr)} {Fin : Value → Shared → Prop} {h₀ : Heap} {L l : Addr} {m : Str → Option Value} {news : List (Addr × Obj)} {items : List Value}
    (hh : A.handled = none) (F : Fr h₀ L s.heap m) (N : News h₀ L s.heap news) (hl : s.heap.IsList l items.toArray) (hsz : items.length ≤ sizeLine) (J : Nat → List Value → Prop)
    (ht : ∀ l I i v (s : Shared) (Q : Unit → Shared → Prop) (E : Value → Shared → Prop), s.heap.IsListIter I l i → Q () s → wpAny (model prog w) A (letOwnedTupleGo target (.ref I) v) Q E s) (hJ : J 0 [])
    (turn : ∀ base C I D io i v h tk m₁ ys ep, items[i]? = some v → J i ys → I ≠ D → (∀ b o, h₀.get? b = some o → base.get? b = some o) → Fr base C h m₁ → News base C h ((I, io) :: (D, listOf ys.toArray ep) :: news) →
      CompTurn prog w A (compEnvC scope cl C env) target ifs elt J i v ys (TEnd base C ((I, io) :: (D, listOf ys.toArray ep) :: news) s) { s with heap := h, toks := tk })
    (fin : ∀ D h' tk ys ep, J items.length ys → Fr h₀ L h' m → News h₀ L h' ((D, listOf ys.toArray ep) :: news) → (∀ b o, s.heap.get? b = some o → h'.get? b = some o) → s.heap.get? D = none → Fin (.ref D) { s with heap := h', toks := tk }) :
    wpAny (model prog w) A (pyIter (.ref l)) (fun it s₂ => (∃ m, s₂.heap.Ns L m) ∧ Blk prog w A env scope cl target ifs elt Fin it s₂) E s := by
  refine wpAny_pyIter_list hl ?_
  refine ⟨⟨m, (F.push _).ns⟩, ?_⟩
  have hne : l ≠ s.heap.objs.size := by obtain ⟨o, ho, _⟩ := hl; exact Nat.ne_of_lt (Heap.lt_size ho)
  have hb : ∀ b o, s.heap.get? b = some o → b ∉ [s.heap.objs.size] := fun b o e hm => by
    rcases List.mem_cons.mp hm with rfl | hm
    · exact absurd (Heap.lt_size e) (Nat.lt_irrefl _)
    · cases hm
  refine ⟨_, _, _, _, _, _, J, rfl, Walks.list hh _ l hne items.toArray, by simpa using hsz, ⟨⟨_, Heap.get?_push_size _ rfl, rfl, rfl⟩, hl.at fun o e => Heap.get?_push_of_some _ e⟩, ?_, fun i v s Q E st hQ => ht _ _ _ _ _ _ _ st.1 hQ, hJ, ?_, ?_⟩
  · intro b hm
    obtain ⟨o, ho, _⟩ := hl
    dsimp only
    rw [Heap.size_push]
    rcases List.mem_cons.mp hm with rfl | hm
    · exact Nat.lt_succ_self _
    · rcases List.mem_cons.mp hm with rfl | hm
      · exact Nat.lt_succ_of_lt (Heap.lt_size ho)
      · cases hm
  · intro C D i v h tk m₁ ys ep hC hv hJ' hn hst' hD hDC hDf hDo hk
    have up : ∀ b o, s.heap.get? b = some o → h.get? b = some o := fun b o e => hk b o (hb b o e) (Heap.get?_push_of_some _ e)
    obtain ⟨oI, hoI, -, -⟩ := hst'.1
    have hC' : s.heap.objs.size < C := by dsimp only at hC; rw [Heap.size_push] at hC; exact hC
    have base0 : ∀ b, s.heap.get? b = none → (hideAll s.heap (news.map (·.1))).get? b = none := fun b q => by
      cases e : (hideAll s.heap (news.map (·.1))).get? b with
      | none => rfl
      | some o => rw [of_hideAll _ e] at q; cases q
    have hI0 : s.heap.get? s.heap.objs.size = none := by
      cases e : s.heap.get? s.heap.objs.size with
      | none => rfl
      | some o => exact absurd (Heap.lt_size e) (Nat.lt_irrefl _)
    have hDs : s.heap.get? D = none := by
      cases e : s.heap.get? D with
      | none => rfl
      | some o => rw [Heap.get?_push_of_some _ e] at hD; cases hD
    have FF : Fr (hideAll s.heap (news.map (·.1))) C h m₁ := ⟨hn, fun b o e => up b o (of_hideAll _ e), by rw [hideAll_size]; exact Nat.le_of_lt hC'⟩
    have NN : News (hideAll s.heap (news.map (·.1))) C h ((s.heap.objs.size, oI) :: (D, listOf ys.toArray ep) :: news) := fun p hp => by
      rcases List.mem_cons.mp hp with rfl | hp
      · exact ⟨hoI, Nat.ne_of_lt hC', base0 _ hI0⟩
      · rcases List.mem_cons.mp hp with rfl | hp
        · exact ⟨hDo, hDC, base0 _ hDs⟩
        · exact ⟨up _ _ (N p hp).1, Nat.ne_of_lt (Nat.lt_trans (Heap.lt_size (N p hp).1) hC'), hideAll_none _ (List.mem_map_of_mem hp)⟩
    have live : ∀ b o, s.heap.get? b = some o → (∃ o, (hideAll s.heap (news.map (·.1))).get? b = some o) ∨ ∃ o, (b, o) ∈ ((s.heap.objs.size, oI) :: (D, listOf ys.toArray ep) :: news : List (Addr × Obj)) := fun b o q => by
      by_cases hm : b ∈ news.map (·.1)
      · obtain ⟨p, hp, rfl⟩ := List.mem_map.mp hm
        exact .inr ⟨p.2, .tail _ (.tail _ hp)⟩
      · exact .inl ⟨o, hideAll_get _ q hm⟩
    have hX : ∀ b, (b = D ∨ b ∈ [s.heap.objs.size, l] ∨ ∃ o, (s.heap.push { cls := .type "list_iterator", data := .fields #[.ref l, .int 0 0] }).get? b = some o) → (∃ o, (hideAll s.heap (news.map (·.1))).get? b = some o) ∨ ∃ o, (b, o) ∈ ((s.heap.objs.size, oI) :: (D, listOf ys.toArray ep) :: news : List (Addr × Obj)) := by
      rintro b (rfl | hm | ⟨o, q⟩)
      · exact .inr ⟨_, .tail _ (.head _)⟩
      · rcases List.mem_cons.mp hm with rfl | hm
        · exact .inr ⟨_, .head _⟩
        · rcases List.mem_cons.mp hm with rfl | hm
          · obtain ⟨o, ho, _⟩ := hl
            exact live _ _ ho
          · cases hm
      · by_cases hb' : b = s.heap.objs.size
        · subst hb'; exact .inr ⟨_, .head _⟩
        · exact live b o ((Heap.get?_push_ne _ _ _ hb').symm.trans q)
    exact (turn _ C s.heap.objs.size D oI i v h tk m₁ ys ep (by simpa using hv) hJ' (fun q => hDf (by rw [← q]; exact .head _)) (up_hide F N) FF NN).mono fun s' t => near_of FF NN hX t
  · intro D h' tk ys ep hD hD' hJ' hk
    have up : ∀ b o, s.heap.get? b = some o → h'.get? b = some o := fun b o e => hk b o (hb b o e) (Heap.get?_push_of_some _ e)
    have hDs : s.heap.get? D = none := by
      cases e : s.heap.get? D with
      | none => rfl
      | some o => rw [Heap.get?_push_of_some _ e] at hD; cases hD
    refine fin D h' tk ys ep (by simpa using hJ') (fr_keeps F up) (fun p hp => ?_) up hDs
    rcases List.mem_cons.mp hp with rfl | hp
    · refine ⟨hD', fun q => ?_, ?_⟩
      · obtain ⟨o, _, _, ho, _⟩ := F.ns
        dsimp only at q
        rw [← q, hDs] at ho; cases ho
      · cases e : h₀.get? D with
        | none => rfl
        | some o => rw [F.keep _ _ e] at hDs; cases hDs
    · exact ⟨up _ _ (N p hp).1, (N p hp).2⟩

theorem src_range {s : Shared} {elt : Expr} {x : Str} {px : Pos} {ifs : List Expr} {scope : Scope} {cl : List (Str × Addr)} {Fin : Value → Shared → Prop} {h₀ : Heap} {L r : Addr} {m : Str → Option Value} {news : List (Addr × Obj)} {a b : Int} {t u v' : Tok} {n : Nat}
    (hh : A.handled = none) (F : Fr h₀ L s.heap m) (N : News h₀ L s.heap news) (hr : IsRange s.heap r a b 1 t u v') (hsm : Builtin.Range.small a b 1 = true) (hn : Builtin.Range.rangeSize a b 1 = (n : Int)) (hsz : n ≤ sizeLine) (J : Nat → List Value → Prop) (hJ : J 0 [])
    (turn : ∀ base C I D io i v h tk m₁ ys ep t, i < n → v = .int (a + (i : Int)) t → J i ys → I ≠ D → (∀ b o, h₀.get? b = some o → base.get? b = some o) → Fr base C h m₁ → News base C h ((I, io) :: (D, listOf ys.toArray ep) :: news) →
      CompTurn prog w A (compEnvC scope cl C env) (.Name x px) ifs elt J i v ys (TEnd base C ((I, io) :: (D, listOf ys.toArray ep) :: news) s) { s with heap := h, toks := tk })
    (fin : ∀ D h' tk ys ep, J n ys → Fr h₀ L h' m → News h₀ L h' ((D, listOf ys.toArray ep) :: news) → (∀ b o, s.heap.get? b = some o → h'.get? b = some o) → s.heap.get? D = none → Fin (.ref D) { s with heap := h', toks := tk }) :
    wpAny (model prog w) A (pyIter (.ref r)) (fun it s₂ => (∃ m, s₂.heap.Ns L m) ∧ Blk prog w A env scope cl (.Name x px) ifs elt Fin it s₂) E s := by
  refine wpAny_pyIter_range hr hsm ?_
  refine ⟨⟨m, (F.push _).ns⟩, ?_⟩
  have hb : ∀ b o, s.heap.get? b = some o → b ∉ [s.heap.objs.size] := fun b o e hm => by
    rcases List.mem_cons.mp hm with rfl | hm
    · exact absurd (Heap.lt_size e) (Nat.lt_irrefl _)
    · cases hm
  refine ⟨s.heap.objs.size, [s.heap.objs.size], [s.heap.objs.size], n, _, _, J, rfl, (Walks.range hh _ a 1 n).bound, hsz, (by show IsRangeIter _ _ _ _ _; rw [hn]; simpa using Heap.get?_push_size _ rfl), ?_, fun i v s Q E st hQ => wpAny_pure hQ, hJ, ?_, ?_⟩
  · intro b hm
    dsimp only
    rw [Heap.size_push]
    rcases List.mem_cons.mp hm with rfl | hm
    · exact Nat.lt_succ_self _
    · cases hm
  · intro C D i v h tk m₁ ys ep hC hv hJ' hn hst' hD hDC hDf hDo hk
    have up : ∀ b o, s.heap.get? b = some o → h.get? b = some o := fun b o e => hk b o (hb b o e) (Heap.get?_push_of_some _ e)
    obtain ⟨hi, t, ht⟩ := hv
    obtain ⟨oI, hoI⟩ : ∃ o, h.get? s.heap.objs.size = some o := ⟨_, hst'⟩
    have hC' : s.heap.objs.size < C := by dsimp only at hC; rw [Heap.size_push] at hC; exact hC
    have base0 : ∀ b, s.heap.get? b = none → (hideAll s.heap (news.map (·.1))).get? b = none := fun b q => by
      cases e : (hideAll s.heap (news.map (·.1))).get? b with
      | none => rfl
      | some o => rw [of_hideAll _ e] at q; cases q
    have hI0 : s.heap.get? s.heap.objs.size = none := by
      cases e : s.heap.get? s.heap.objs.size with
      | none => rfl
      | some o => exact absurd (Heap.lt_size e) (Nat.lt_irrefl _)
    have hDs : s.heap.get? D = none := by
      cases e : s.heap.get? D with
      | none => rfl
      | some o => rw [Heap.get?_push_of_some _ e] at hD; cases hD
    have FF : Fr (hideAll s.heap (news.map (·.1))) C h m₁ := ⟨hn, fun b o e => up b o (of_hideAll _ e), by rw [hideAll_size]; exact Nat.le_of_lt hC'⟩
    have NN : News (hideAll s.heap (news.map (·.1))) C h ((s.heap.objs.size, oI) :: (D, listOf ys.toArray ep) :: news) := fun p hp => by
      rcases List.mem_cons.mp hp with rfl | hp
      · exact ⟨hoI, Nat.ne_of_lt hC', base0 _ hI0⟩
      · rcases List.mem_cons.mp hp with rfl | hp
        · exact ⟨hDo, hDC, base0 _ hDs⟩
        · exact ⟨up _ _ (N p hp).1, Nat.ne_of_lt (Nat.lt_trans (Heap.lt_size (N p hp).1) hC'), hideAll_none _ (List.mem_map_of_mem hp)⟩
    have live : ∀ b o, s.heap.get? b = some o → (∃ o, (hideAll s.heap (news.map (·.1))).get? b = some o) ∨ ∃ o, (b, o) ∈ ((s.heap.objs.size, oI) :: (D, listOf ys.toArray ep) :: news : List (Addr × Obj)) := fun b o q => by
      by_cases hm : b ∈ news.map (·.1)
      · obtain ⟨p, hp, rfl⟩ := List.mem_map.mp hm
        exact .inr ⟨p.2, .tail _ (.tail _ hp)⟩
      · exact .inl ⟨o, hideAll_get _ q hm⟩
    have hX : ∀ c, (c = D ∨ c ∈ [s.heap.objs.size] ∨ ∃ o, (s.heap.push { cls := .type "range_iterator", data := .fields #[rawInt a, rawInt (Builtin.Range.rangeSize a b 1), rawInt 1] }).get? c = some o) → (∃ o, (hideAll s.heap (news.map (·.1))).get? c = some o) ∨ ∃ o, (c, o) ∈ ((s.heap.objs.size, oI) :: (D, listOf ys.toArray ep) :: news : List (Addr × Obj)) := by
      rintro b (rfl | hm | ⟨o, q⟩)
      · exact .inr ⟨_, .tail _ (.head _)⟩
      · rcases List.mem_cons.mp hm with rfl | hm
        · exact .inr ⟨_, .head _⟩
        · cases hm
      · by_cases hb' : b = s.heap.objs.size
        · subst hb'; exact .inr ⟨_, .head _⟩
        · exact live b o ((Heap.get?_push_ne _ _ _ hb').symm.trans q)
    exact (turn _ C s.heap.objs.size D oI i v h tk m₁ ys ep t hi (by simpa using ht) hJ' (fun q => hDf (by rw [← q]; exact .head _)) (up_hide F N) FF NN).mono fun s' t => near_of FF NN hX t
  · intro D h' tk ys ep hD hD' hJ' hk
    have up : ∀ b o, s.heap.get? b = some o → h'.get? b = some o := fun b o e => hk b o (hb b o e) (Heap.get?_push_of_some _ e)
    have hDs : s.heap.get? D = none := by
      cases e : s.heap.get? D with
      | none => rfl
      | some o => rw [Heap.get?_push_of_some _ e] at hD; cases hD
    refine fin D h' tk ys ep hJ' (fr_keeps F up) (fun p hp => ?_) up hDs
    rcases List.mem_cons.mp hp with rfl | hp
    · refine ⟨hD', fun q => ?_, ?_⟩
      · obtain ⟨o, _, _, ho, _⟩ := F.ns
        dsimp only at q
        rw [← q, hDs] at ho; cases ho
      · cases e : h₀.get? D with
        | none => rfl
        | some o => rw [F.keep _ _ e] at hDs; cases hDs
    · exact ⟨up _ _ (N p hp).1, (N p hp).2⟩
end

section
variable {M : Model} {A : Around} {E : Value → Shared → Prop} {s : Shared} {K : Frag} {h₀ : Heap} {C : Addr} {m mg mb : Str → Option Value} {scope : Scope} {cl : List (Str × Addr)} {env : Env} {p : Program} {loose : List Str}
  {x : Str} {pos : Pos} {v : Value}
theorem cn_L {Q : Value → Shared → Prop} (F : Fr h₀ C s.heap m) (hv : m x = some v) (h : Q v s)
    (hk : (compEnvC scope cl C env).scope.kind = .function := by rfl) (hx : (compEnvC scope cl C env).kindOf x = some .local := by rfl) (hd : (x == ("__debug__" : Str)) = false := by decide) :
    wpAny M A (eval (.Name x pos) (compEnvC scope cl C env)) Q E s := wpAny_Name (wpAny_loadName_local hk hx F.ns hv h) hd
theorem cn_K {Q : Value → Shared → Prop} (F : Fr h₀ C s.heap m) (X : K.In h₀) (T : TopRead p loose mg mb h₀) (e : nsIn K mainGlobals x = some (some v)) (h : Q v s)
    (hk : (compEnvC scope cl C env).scope.kind = .function := by rfl) (hx : (compEnvC scope cl C env).kindOf x = some .globalImplicit := by rfl) (hg : env.globals = mainGlobals := by rfl) (hd : (x == ("__debug__" : Str)) = false := by decide) :
    wpAny M A (eval (.Name x pos) (compEnvC scope cl C env)) Q E s := Name_function_global hk hx (loadGlobal_global (env := compEnvC scope cl C env) (by show s.heap.Ns env.globals mg; rw [hg]; exact T.g.keeps F.keep) (mg_of X T.g e) h) hd
theorem cn_B {Q : Value → Shared → Prop} (F : Fr h₀ C s.heap m) (X : K.In h₀) (T : TopRead p loose mg mb h₀) (e : nsIn K mainGlobals x = some none) (hv : bootBuiltins x = some v) (hn : x ≠ "__name__") (h : Q v s)
    (hk : (compEnvC scope cl C env).scope.kind = .function := by rfl) (hx : (compEnvC scope cl C env).kindOf x = some .globalImplicit := by rfl) (hg : env.globals = mainGlobals := by rfl) (hbb : env.builtins = builtinsNs := by rfl) (hd : (x == ("__debug__" : Str)) = false := by decide) :
    wpAny M A (eval (.Name x pos) (compEnvC scope cl C env)) Q E s :=
  Name_function_global hk hx (loadGlobal_builtin (env := compEnvC scope cl C env) (by show s.heap.Ns env.globals mg; rw [hg]; exact T.g.keeps F.keep) (mg_none_of X T.g e) (by show s.heap.Ns env.builtins mb; rw [hbb]; exact T.b.keeps F.keep) ((T.builtins x hn).trans hv) h) hd
theorem cn_C {Q : Value → Shared → Prop} {c : Addr} {o : Obj} {L : Addr} {news : List (Addr × Obj)} (N : News h₀ L s.heap news) (hc : cl.lookup x = some c) (hm : (c, o) ∈ news) (hd : o.data = .cell (some v)) (h : Q v s)
    (hk : (compEnvC scope cl C env).scope.kind = .function := by rfl) (hx : (compEnvC scope cl C env).kindOf x = some .cell := by rfl) (hb : (x == ("__debug__" : Str)) = false := by decide) :
    wpAny M A (eval (.Name x pos) (compEnvC scope cl C env)) Q E s := wpAny_Name (wpAny_loadName_cell hk hx hc ⟨o, N.get hm, hd⟩ h) hb
theorem cn_store {Q : Unit → Shared → Prop} {news : List (Addr × Obj)} (F : Fr h₀ C s.heap m) (N : News h₀ C s.heap news)
    (h : ∀ h', Fr h₀ C h' (fun y => if y = x then some v else m y) → News h₀ C h' news → Q () { s with heap := h', toks := s.toks + 1 })
    (hk : scope.kind = .function := by rfl) (hx : (compEnvC scope cl C env).kindOf x = some .local := by rfl) : wpAny M A (storeName (compEnvC scope cl C env) x v) Q E s :=
  wpAny_storeName_local hx F.ns (fun h' hn hs => h h' (F.set hn hs) (N.set hs)) (by show (scope.kind == .class || (scope.kind == .module && C != env.globals)) = false; rw [hk]; rfl)
end

end Mine
end
section
open PySem PySem.W PySem.Calls PyProof.Rows
set_option maxRecDepth 100000
namespace Mine
def SgV (c : Nat) (v : Value) : Prop := ∃ t, v = .str (sg c) t

section
variable {prog : Program} {w : World} {A : Around} {E : Value → Shared → Prop} {s : Shared}
local macro_rules | `(tactic| walk_at "eval Name") => `(tactic| (k_here; (with_reducible show wpAny _ _ (eval (Expr.Name _ _) (compEnvC _ _ _ _)) _ _ _); first
  | (refine' cn_L ?zF ?zv ?_ ?za ?zb; (case zF => k_asm); (case za => rfl); (case zb => rfl); (case zv => rfl); k_whole)
  | (refine' cn_K ?zF ?zX ?zT ?ze ?_ ?za ?zb; (case zF => k_asm); (case zX => k_asm); (case zT => k_asm); (case za => rfl); (case zb => rfl); (case ze => k_is); k_whole)
  | (refine' cn_B ?zF ?zX ?zT ?ze ?zv ?zn ?_ ?za ?zb; (case zF => k_asm); (case zX => k_asm); (case zT => k_asm); (case za => rfl); (case zb => rfl); (case ze => k_is); (case zv => boot_fast); (case zn => decide); k_whole)
  | (refine' cn_C ?zN ?zc ?zm ?zd ?_ ?za ?zb; (case za => rfl); (case zb => rfl); (case zN => k_asm); (case zc => rfl); (case zm => k_mem); (case zd => k_asm); k_whole)))
local macro_rules | `(tactic| walk_at "storeName") => `(tactic| (k_here; (with_reducible show wpAny _ _ (storeName (compEnvC _ _ _ _) _ _) _ _ _); (refine' cn_store ?zF ?zN ?_ ?za ?zb; (case zF => k_asm); (case zN => k_asm); (case za => rfl); (case zb => rfl); k_whole; intro h' F' N'; (try k_sweep))))
local macro_rules | `(tactic| walk_at "eval ListComp") => `(tactic| (k_here; refine Halt.mk ?_))
local macro_rules | `(tactic| walk_at "exec Assign cons ListComp") => `(tactic| (k_here; refine Halt.mk ?_))
set_option maxHeartbeats 4000000 in
theorem values_spec {Q : Value → Shared → Prop} {x dx hl : Addr} {t : Tok} {n ep : Nat} {items : List Value} {kvs : List KV}
    (hn : ∀ p ∈ hdObjs w.params x dx hl t n (listOf items.toArray ep), s.heap.get? p.1 = some p.2) (G : Gl w (hideAll s.heap ((hdObjs w.params x dx hl t n (listOf items.toArray ep)).map (·.1)))) (hA : Room A 3)
    (hp : Pairs (hideAll s.heap ((hdObjs w.params x dx hl t n (listOf items.toArray ep)).map (·.1))) items kvs) (hlen : kvs.length ≤ 8)
    (ret : ∀ D ys ep h' tk', Paired SgV (kvs.map (·.c)) ys → (∀ b o, s.heap.get? b = some o → h'.get? b = some o) → s.heap.get? D = none → h'.get? D = some (listOf ys.toArray ep) → Q (.ref D) { s with heap := h', toks := tk' }) :
    wpAny (model prog w) A (call (.ref 152) [.ref x]) Q E s := by
  refine wpAny_call (enter_fnN (binds := [("self", .ref x)]) hn G (hA.le (by omega)) (by rfl) (by rfl) (.of_eq rfl) (locs rfl) (by decide) fun h₁ F N => ?_)
  obtain ⟨p, loose, mg, mb, T⟩ := G.t
  have X := G.k
  unfold hdObjs at N
  k_steps
  refine comp_eval (by rfl) (by decide) rfl (by decide) ?_
  k_steps
  rename Fr _ _ _ _ => F9
  rename News _ _ _ _ => N9
  have hlL : kvs.length = items.length := hp.1.symm
  refine src_list (items := items) hA.hd F9 N9 ⟨_, N9.get (by k_mem), rfl, _, rfl⟩ (le8 (hlL ▸ hlen)) (fun i ys => Paired SgV ((kvs.take i).map (·.c)) ys) (fun _ _ _ _ _ _ _ => lot_tuple) .nil
    (fun base C I D io i v h tk m₁ ys ep' hv hJ hID up F₁ N₁ => ?_) fun D h' tk ys ep' hJ F₁ N₁ hk hD0 => ?_
  · obtain ⟨kv, hkv⟩ : ∃ kv, kvs[i]? = some kv := by
      have hlt : i < items.length := (List.getElem?_eq_some_iff.mp hv).1
      exact ⟨_, List.getElem?_eq_getElem (by rw [hlL]; exact hlt)⟩
    obtain ⟨⟨hk1, hk2⟩, T0, t1, t2, rfl, hT0⟩ := hp.2 i kv v hkv hv
    have hT1 := hT0.keeps up
    have G₂ := G.keeps up
    clear T X G F9 N9
    obtain ⟨p, loose, mg, mb, T⟩ := G₂.t
    have X := G₂.k
    unfold CompTurn
    refine unpackN_ F₁ N₁ (hT1.keeps F₁.keep) hA.hd rfl rfl fun h' F₂ N₂ => ?_
    clear F₁ N₁
    k_steps
    refine askIfs_nil ?_
    rw [if_pos rfl]
    k_steps
    (any_goals (first | exact ("" : PySem.Str) | exact (0 : Nat) | exact PySem.Value.none | exact ([] : List (PySem.Str × PySem.Addr)) | skip))
    · show Paired _ _ _
      rw [List.take_add_one, hkv, List.map_append]
      exact hJ.snoc ⟨_, rfl⟩
    · exact ⟨_, _, _, rfl, (by assumption), (by assumption)⟩
  · dsimp only
    have hJ' : Paired SgV (kvs.map (·.c)) ys := by rw [← hlL, List.take_length] at hJ; exact hJ
    have hk' := keep_all (news := hdObjs w.params x dx hl t n (W.listOf items.toArray ep)) F₁ N₁ hn (fun p hp => .tail _ hp)
    refine ret D ys ep' _ _ hJ' hk' ?_ (N₁ _ (.head _)).1
    cases e : s.heap.get? D with
    | none => rfl
    | some o =>
      by_cases q : D ∈ (hdObjs w.params x dx hl t n (W.listOf items.toArray ep)).map (·.1)
      · obtain ⟨p, hp, rfl⟩ := List.mem_map.mp q
        have := (N9 p hp).1
        dsimp only at hD0
        rw [hD0] at this; cases this
      · have := hideAll_get _ e q
        rw [(N₁ _ (.head _)).2.2] at this; cases this
end
end Mine
end
section
open PySem PySem.W PySem.Calls PyProof.Rows
set_option maxRecDepth 100000
namespace Mine
theorem Pairs.keeps {h h' : Heap} {items : List Value} {kvs : List KV} (hp : Pairs h items kvs) (k : ∀ b o, h.get? b = some o → h'.get? b = some o) : Pairs h' items kvs :=
  ⟨hp.1, fun i kv v a b => let ⟨x, T, t1, t2, e, ht⟩ := hp.2 i kv v a b; ⟨x, T, t1, t2, e, ht.keeps k⟩⟩
theorem hd_ne {P : Params} {h : Heap} {x dx hl : Addr} {t : Tok} {n : Nat} {its : Array Value} {ep : Nat} (hn : ∀ p ∈ hdObjs P x dx hl t n (listOf its ep), h.get? p.1 = some p.2) : x ≠ hl ∧ dx ≠ hl := by
  refine ⟨fun e => ?_, fun e => ?_⟩
  · have h1 := hn (x, _) (.head _)
    have h2 := hn (hl, _) (.tail _ (.tail _ (.head _)))
    rw [e] at h1
    rw [h1] at h2
    exact absurd (congrArg (Option.map Obj.cls) h2) (by simp [W.listOf, instObj])
  · have h1 := hn (dx, _) (.tail _ (.head _))
    have h2 := hn (hl, _) (.tail _ (.tail _ (.head _)))
    rw [e] at h1
    rw [h1] at h2
    exact absurd (congrArg (Option.map Obj.cls) h2) (by simp [W.listOf, dictOf])
theorem fresh_tup {h h' : Heap} {D : List Addr} {L T : Addr} {o : Obj} (hT : h'.get? T = some o ∧ T ≠ L ∧ (hideAll h D).get? T = none) (hc : o.cls = .type "tuple") (hD : ∀ a ∈ D, ∃ o, h'.get? a = some o ∧ o.cls ≠ .type "tuple") : h.get? T = none := by
  cases e : h.get? T with
  | none => rfl
  | some o' =>
    by_cases q : T ∈ D
    · obtain ⟨o2, h2, h3⟩ := hD T q
      rw [hT.1] at h2; cases h2; exact absurd hc h3
    · rw [hideAll_get _ e q] at hT; exact absurd hT.2.2 (by simp)
section
variable {prog : Program} {w : World} {A : Around} {E : Value → Shared → Prop} {s : Shared}
local macro_rules | `(tactic| walk_at "call ref") => `(tactic| (k_here; first
  | ((with_unfolding_all refine convN_spec (Gl.keeps (by assumption) (Fr.keep (by assumption))) (Room.deeper (by assumption) _) (by assumption) ?_); intro hz tz kz; (have Fz := fr_keeps (by assumption) kz); (have Nz := news_keeps (by assumption) kz); clear kz; (try dsimp only))
  | ((with_unfolding_all refine convV_spec (Gl.keeps (by assumption) (Fr.keep (by assumption))) (Room.deeper (by assumption) _) (by assumption) ?_); intro hz tz kz; (have Fz := fr_keeps (by assumption) kz); (have Nz := news_keeps (by assumption) kz); clear kz; (try dsimp only))
  | refine Halt.mk ?_))
local macro_rules | `(tactic| walk_at "call builtin:list.append") => `(tactic| (k_here; (refine' append_K ?k1 ?k2 ?k3 ?_ ?zz; (case k1 => k_asm); (case k2 => k_asm); (case k3 => k_upd); (case zz => (rw [List.size_toArray]; assumption)); k_whole); intro h' F' N'; (try k_sweep)))
set_option maxHeartbeats 4000000 in
theorem setdef_spec {Q : Value → Shared → Prop} {x dx hl : Addr} {t tn tv : Tok} {n ep : Nat} {items : List Value} {kvs : List KV} {b : Bool} {j c : Nat} (hj : j < 8) (hc : c < 16)
    (hn : ∀ p ∈ hdObjs w.params x dx hl t n (listOf items.toArray ep), s.heap.get? p.1 = some p.2) (G : Gl w (hideAll s.heap ((hdObjs w.params x dx hl t n (listOf items.toArray ep)).map (·.1)))) (hA : Room A 4)
    (hp : Pairs (hideAll s.heap ((hdObjs w.params x dx hl t n (listOf items.toArray ep)).map (·.1))) items kvs) (hlen : kvs.length ≤ 8)
    (ret : ∀ v h' tk' items' ep', (match findK j kvs with | some c' => (∃ t, v = .str (sg c') t) ∧ items' = items | none => (∃ t, v = .str (sg c) t) ∧ ∃ T t1 t2, items' = items ++ [.ref T] ∧ IsTup h' T #[.str (ltr b j) t1, .str (sg c) t2] ∧ s.heap.get? T = none) →
      (∀ b o, s.heap.get? b = some o → b ≠ hl → h'.get? b = some o) → h'.get? hl = some (listOf items'.toArray ep') → Q v { s with heap := h', toks := tk' }) :
    wpAny (model prog w) A (call (.ref 185) [.ref x, .str (ltr b j) tn, .str (sg c) tv]) Q E s := by
  refine wpAny_call (enter_fnN (binds := [("self", .ref x), ("name", .str (ltr b j) tn), ("value", .str (sg c) tv)]) hn G (hA.le (by omega)) (by rfl) (by rfl) (.of_eq rfl) (locs rfl) (by decide) fun h₁ F N => ?_)
  obtain ⟨p, loose, mg, mb, T⟩ := G.t
  have X := G.k
  unfold hdObjs at N
  obtain ⟨hx, hdx⟩ := hd_ne hn
  have hsz : items.length ≤ sizeLine := le8 (by rw [hp.1]; exact hlen)
  have hA3 : Room A 3 := hA.le (by omega)
  have hcl := clean_ltr b j hj
  have hcs := clean_sg c hc
  k_steps
  rename Fr _ _ _ _ => F9
  rename News _ _ _ _ => N9
  refine get_spec (ep := ep) (n := n) (t := t) (hl := hl) (dx := dx) hj (fun p hp => (N9 p hp).1) (G.keeps (up_hide F9 N9)) (hA.deeper _) (hp.keeps (up_hide F9 N9)) fun v h' tk' hv hk => ?_
  have F10 := fr_keeps F9 hk
  have N10 := news_keeps N9 hk
  clear F9 N9 hk
  dsimp only
  cases hf : findK j kvs with
  | some c' =>
    rw [hf] at hv ret
    obtain ⟨tv', rfl⟩ := hv
    k_steps
    exact ret _ _ _ items ep ⟨⟨_, rfl⟩, rfl⟩ (fun bb o e hb => keep_all (news := hdObjs w.params x dx hl t n (W.listOf items.toArray ep)) (by assumption) (by assumption) hn (fun p hp => hp) bb o e) (News.get (by assumption) (by k_mem))
  | none =>
    rw [hf] at hv ret
    obtain rfl : v = .none := hv
    k_steps
    rename Fr _ _ _ _ => F9
    rename News _ _ _ _ => N9
    have h3 := (N9 _ (.tail _ (.tail _ (.tail _ (.head _))))).1
    refine ret _ _ _ (items ++ [_]) (ep + 1) ⟨⟨_, rfl⟩, _, _, _, rfl, ⟨_, (N9 _ (.head _)).1, rfl, _, rfl⟩, ?_⟩ (fun bb o e hb => ?_) (by simpa using h3)
    · have hT := N9 _ (.head _)
      clear ret
      refine fresh_tup hT rfl fun a ha => ?_
      simp only [hdObjs, List.map_cons, List.map_nil, List.mem_cons, List.not_mem_nil, or_false] at ha
      rcases ha with rfl | rfl | rfl
      · exact ⟨_, (N9 _ (.tail _ (.head _))).1, by simp [instObj]⟩
      · exact ⟨_, (N9 _ (.tail _ (.tail _ (.head _)))).1, by simp [dictOf]⟩
      · exact ⟨_, h3, by simp [W.listOf]⟩
    by_cases q : bb ∈ (hdObjs w.params x dx hl t n (W.listOf items.toArray ep)).map (·.1)
    · obtain ⟨p, hp', rfl⟩ := List.mem_map.mp q
      rw [← e, hn p hp']
      simp only [hdObjs, List.mem_cons, List.not_mem_nil, or_false] at hp'
      rcases hp' with rfl | rfl | rfl
      · exact (N9 _ (.tail _ (.head _))).1
      · exact (N9 _ (.tail _ (.tail _ (.head _)))).1
      · exact absurd rfl hb
    · exact F9.keep bb o (hideAll_get _ e q)
end
end Mine
end
section
open PySem PySem.W PySem.Calls PyProof.Rows
set_option maxRecDepth 100000
namespace Mine
section
variable {prog : Program} {w : World} {A : Around} {E : Value → Shared → Prop} {s : Shared}
local macro_rules | `(tactic| walk_at "exec For") => `(tactic| (k_here; refine Halt.mk ?_))
local macro_rules | `(tactic| walk_at "exec For Tuple Name") => `(tactic| (k_here; refine Halt.mk ?_))
local macro_rules | `(tactic| walk_at "exec For Tuple Name cons nil") => `(tactic| (k_here; refine Halt.mk ?_))
local macro_rules | `(tactic| walk_at "exec For Name Call") => `(tactic| (k_here; refine Halt.mk ?_))
local macro_rules | `(tactic| walk_at "exec For Name Call cons nil") => `(tactic| (k_here; refine Halt.mk ?_))
local macro_rules | `(tactic| walk_at "exec For Name Name") => `(tactic| (k_here; refine Halt.mk ?_))
local macro_rules | `(tactic| walk_at "exec For Name Name cons nil") => `(tactic| (k_here; refine Halt.mk ?_))
local macro_rules | `(tactic| walk_at "exec For Name Subscript cons nil") => `(tactic| (k_here; refine Halt.mk ?_))
local macro_rules | `(tactic| walk_at "exec For Tuple Name cons nil") => `(tactic| (k_here; refine Halt.mk ?_))
local macro_rules | `(tactic| walk_at "last exec For") => `(tactic| (k_here; refine Halt.mk ?_))
local macro_rules | `(tactic| walk_at "last exec For Name") => `(tactic| (k_here; refine Halt.mk ?_))
local macro_rules | `(tactic| walk_at "last exec For Name Name") => `(tactic| (k_here; refine Halt.mk ?_))
set_option maxHeartbeats 4000000 in
theorem init_spec {R : Result → Shared → Prop} {x dx hl : Addr} {ep : Nat}
    (hn : ∀ p ∈ [(x, instObj 195 dx), (dx, dictOf [] 0), (hl, listOf #[] ep)], s.heap.get? p.1 = some p.2) (G : Gl w (hideAll s.heap ([(x, instObj 195 dx), (dx, dictOf [] 0), (hl, listOf #[] ep)].map (·.1)))) (hA : Room A 2)
    (ret : ∀ h' tk' t n, (∀ b o, s.heap.get? b = some o → b ≠ dx → h'.get? b = some o) → h'.get? dx = some (dictOf [⟨PyData.keyHash w.params (Str.ofString "_headers"), .str (Str.ofString "_headers") t, .ref hl⟩] n) → R (.ok (.ret .none)) { s with heap := h', toks := tk' }) :
    codeAny (model prog w) A (.call (.ref 87) ⟨[.ref x, .ref hl], []⟩) R s := by
  refine enter_fnN (binds := [("self", .ref x), ("headers", .ref hl)]) hn G (hA.le (by omega)) (by rfl) (by rfl) (.of_defaults (T := 80) rfl ((G.keeps fun b o e => (hide_in e).1).k 80 _ (by rfl)) rfl rfl rfl) (locs rfl) (by decide) fun h₁ F N => ?_
  obtain ⟨p, loose, mg, mb, T⟩ := G.t
  have X := G.k
  have ne1 : x ≠ dx := fun e => by
    have h1 := hn (x, _) (.head _)
    have h2 := hn (dx, _) (.tail _ (.head _))
    rw [e] at h1
    rw [h1] at h2
    exact absurd (congrArg (Option.map Obj.cls) h2) (by simp [instObj, dictOf])
  have ne2 : hl ≠ dx := fun e => by
    have h1 := hn (hl, _) (.tail _ (.tail _ (.head _)))
    have h2 := hn (dx, _) (.tail _ (.head _))
    rw [e] at h1
    rw [h1] at h2
    exact absurd (congrArg (Option.map Obj.cls) h2) (by simp [W.listOf, dictOf])
  have ne3 : x ≠ hl := fun e => by
    have h1 := hn (x, _) (.head _)
    have h2 := hn (hl, _) (.tail _ (.tail _ (.head _)))
    rw [e] at h1
    rw [h1] at h2
    exact absurd (congrArg (Option.map Obj.cls) h2) (by simp [instObj, W.listOf])
  k_steps
  rename Fr _ _ _ _ => F9
  rename News _ _ _ _ => N9
  refine wpAny_For ?_
  k_steps
  generalize hdo : dictOf [_] _ = dob at N9
  refine for_led2 (l := hl) (lo := listOf #[] ep) (items := #[]) (n := ep) (news := [(x, instObj 195 dx), (dx, dob)]) ["k", "v"]
    (fun i f nw g => nw = [(x, instObj 195 dx), (dx, dob)] ∧ g = s.gens)
    (by exact hA.hd) rfl rfl F9 (news_sub N9 (by intro p hp; simp only [List.mem_cons, List.not_mem_nil, or_false] at hp ⊢; rcases hp with h | h | h <;> simp [h])) (by intro p hp; simp only [List.mem_cons, List.not_mem_nil, or_false] at hp; rcases hp with h | h <;> simp [h, ne3, Ne.symm ne2])
    ⟨rfl, rfl⟩ (fun l I i v s Q E hit hq => lot_tuple hit hq) (fun i v f news₁ I io h tk g hv => by simp at hv) fun f news₁ h tk g hJ F₁ N₁ => ?_
  obtain ⟨rfl, rfl⟩ := hJ
  clear F9 N9
  k_steps
  refine ret _ _ _ _ (fun b o e hb => ?_) (by rw [(N₁ _ (.tail _ (.tail _ (.head _)))).1, ← hdo])
  by_cases q : b ∈ [(x, instObj 195 dx), (dx, dictOf [] 0), (hl, W.listOf #[] ep)].map (·.1)
  · obtain ⟨p, hp', rfl⟩ := List.mem_map.mp q
    rw [← e, hn p hp']
    simp only [List.mem_cons, List.not_mem_nil, or_false] at hp'
    rcases hp' with rfl | rfl | rfl
    · exact (N₁ _ (.tail _ (.head _))).1
    · exact absurd rfl hb
    · exact (N₁ _ (.head _)).1
  · exact F₁.keep b o (hideAll_get _ e q)

/-- Headers([]) makes an empty table over the list -/
theorem headers_spec {Q : Value → Shared → Prop} {L hl : Addr} {h₀ : Heap} {m : Str → Option Value} {ep : Nat} {news : List (Addr × Obj)} (F : Fr h₀ L s.heap m) (N : News h₀ L s.heap ((hl, listOf #[] ep) :: news)) (G : Gl w h₀) (hA : Room A 3)
    (ret : ∀ x dx h' tk' t n, Fr h₀ L h' m → News h₀ L h' (hdObjs w.params x dx hl t n (listOf #[] ep) ++ news) → (∀ p ∈ (hl, listOf #[] ep) :: news, p.1 < dx) → dx < x → Q (.ref x) { s with heap := h', toks := tk' }) :
    wpAny (model prog w) A (call (.ref 195) [.ref hl]) Q E s := by
  refine call_cls (fI := 87) F G.k N (by rfl) (by rfl) (by rfl) fun x dx h' F' N' l1 l2 => ?_
  have hn : ∀ p ∈ [(x, instObj 195 dx), (dx, dictOf [] 0), (hl, listOf #[] ep)], h'.get? p.1 = some p.2 := fun p hp => (N' p (by simp only [List.mem_cons, List.not_mem_nil, or_false] at hp ⊢; rcases hp with h | h | h <;> simp [h])).1
  have N3 : News h₀ L h' [(x, instObj 195 dx), (dx, dictOf [] 0), (hl, listOf #[] ep)] := news_sub N' fun p hp => by simp only [List.mem_cons, List.not_mem_nil, or_false] at hp ⊢; rcases hp with h | h | h <;> simp [h]
  have hA2 : Room (A.under (.builtin "type.__call__" ⟨.ref 195 :: [.ref hl], []⟩)) 2 := by
    refine ⟨hA.hd, ?_, ?_⟩
    · have := hA.dp; rw [show (A.under (.builtin "type.__call__" ⟨.ref 195 :: [.ref hl], []⟩)).depth = A.depth + 1 from rfl]; omega
    · have := hA.un; rw [show (A.under (.builtin "type.__call__" ⟨.ref 195 :: [.ref hl], []⟩)).units = A.units + 1 from rfl]; omega
  refine init_spec (dx := dx) hn (G.keeps (up_hide F' N3)) hA2 fun h'' tk' t n hk hdx => ⟨rfl, ?_⟩
  have hk' : Keep [dx] h' h'' := fun b o e hb => hk b o e fun q => hb (by rw [q]; exact .head _)
  have dN := N' (dx, _) (.tail _ (.head _))
  refine ret x dx h'' tk' t n (fr_upd F' hk' (by intro b hb; rw [List.mem_singleton.mp hb]; exact dN.2.2) (by intro hb; exact dN.2.1 (List.mem_singleton.mp hb).symm)) (fun p hp => ?_) l1 l2
  rcases List.mem_append.mp hp with hp | hp
  · simp only [hdObjs, List.mem_cons, List.not_mem_nil, or_false] at hp
    rcases hp with rfl | rfl | rfl
    · exact ⟨hk _ _ (N' _ (.head _)).1 (Nat.ne_of_gt l2), (N' _ (.head _)).2⟩
    · exact ⟨hdx, dN.2⟩
    · exact ⟨hk _ _ (N' _ (.tail _ (.tail _ (.head _)))).1 (Nat.ne_of_lt (l1 _ (.head _))), (N' _ (.tail _ (.tail _ (.head _)))).2⟩
  · have := N' p (.tail _ (.tail _ (.tail _ hp)))
    exact ⟨hk _ _ this.1 (Nat.ne_of_lt (l1 _ (.tail _ hp))), this.2⟩
end
end Mine
end
section
open PySem PySem.W PySem.Calls PyProof.Rows
set_option maxRecDepth 100000
namespace Mine
section
variable {M : Model} {A : Around} {R : GenEnd} {Y : Protocol} {n : Nat} {s₀ : Shared} {c : Code} {fs : List Frame} {s : Shared} {env : Env}
  {K : Flow → Sem Fin} {H : Value → Sem Fin} {gd : Bool → Bool} {lv : List Value → List Value}
theorem seg_bindw {α β : Type} {m : Sem α} {k : α → Sem β} {K : β → Sem Fin} {H : Value → Sem Fin}
    (h : wpAny M (A.over c fs) m (fun a s' => Seg M A R Y n s₀ c ((k a).wrap K H gd lv) fs s') (fun _ _ => False) s) :
    Seg M A R Y n s₀ c ((m >>= k).wrap K H gd lv) fs s := by
  rw [Sem.bind_eq_wrap', Sem.wrap_wrap]
  exact seg_wrap (wpAny_mono h (fun _ _ x => x) fun _ _ x => x.elim)
/-- a statement that yields nothing -/
theorem seg_plain {st : Stmt} {rest : List Stmt} (h : wpAny M (A.over c fs) (exec st env) (fun f s' => f = .next ∧ Seg M A R Y n s₀ c ((execs rest env).wrap K H gd lv) fs s') (fun _ _ => False) s) :
    Seg M A R Y n s₀ c ((execs (st :: rest) env).wrap K H gd lv) fs s := by
  refine seg_execs_cons (seg_wrap (wpAny_mono h (fun f s' x => ?_) fun _ _ x => x.elim))
  obtain ⟨rfl, x⟩ := x
  exact x
theorem seg_For {target iter : Expr} {body orelse : List Stmt} {pos : Pos}
    (h : wpAny M (A.over c fs) (eval iter env) (fun x s₁ => Halt (wpAny M (A.over c fs) (pyIter x) (fun it s₂ => ∀ p, Seg M A R Y n s₀ (.forLoop target it body orelse env) (M.den (.forLoop target it body orelse env))
      (.ret (fun r => ((match r with | .ok f => (.pure f : Sem Flow) | .error e => .raise e).onRaise fun (x : Value) => do
        if (← field x 1) == Value.none then unsupported "frame.own-activation:exception-without-traceback"
        setFlight x env.frame).wrap K H gd lv) none (gd false) (lv []) c p [] :: fs) s₂) (fun _ _ => False) s₁)) (fun _ _ => False) s)
    (hs : ∀ x, foldedSetIterable iter env x = pure x := by intro _; rfl) :
    Seg M A R Y n s₀ c ((exec (.For target iter body orelse pos) env).wrap K H gd lv) fs s := by
  rw [exec_For]
  refine seg_bindw (wpAny_standAt (seg_bindw (wpAny_mono h (fun x s₁ h₁ => ?_) fun _ _ x => x)))
  refine seg_bindw (wpAny_of_eq (hs x) (seg_bindw (wpAny_standAt (seg_bindw (wpAny_holding (wpAny_mono h₁ (fun it s₂ h₂ => ?_) fun _ _ x => x))))))
  exact seg_call h₂
theorem seg_If {test : Expr} {body orelse : List Stmt} {pos : Pos}
    (h : wpAny M (A.over c fs) (isTrue test env (eval test env)) (fun b s' => b = true ∧ Seg M A R Y n s₀ c ((execs body env).wrap K H gd lv) fs s') (fun _ _ => False) s) :
    Seg M A R Y n s₀ c ((exec (.If test body orelse pos) env).wrap K H gd lv) fs s := by
  rw [exec_If]
  refine seg_bindw (wpAny_standAt (seg_bindw (wpAny_mono h (fun b s' h' => ?_) fun _ _ x => x)))
  obtain ⟨rfl, h'⟩ := h'
  exact h'
end
section
variable {prog : Program} {w : World} {A : Around} {R : GenEnd} {Y : Protocol} {n : Nat} {s₀ : Shared} {fs : List Frame} {s : Shared} {env : Env}
theorem seg_forLoop {target : Expr} {it : Value} {body orelse : List Stmt}
    (h : wpAny (model prog w) (A.over (.forLoop target it body orelse env) fs) (pyNext it) (fun r s' => ∃ v, r = some v ∧
        wpAny (model prog w) (A.over (.forLoop target it body orelse env) fs) (letOwnedTupleGo target it v) (fun _ s₁ => wpAny (model prog w) (A.over (.forLoop target it body orelse env) fs) (assign target env v) (fun _ s₂ =>
          Seg (model prog w) A R Y n s₀ (.forLoop target it body orelse env) ((execs body env).wrap (fun f => match f with
            | .next | .cont => .pure (.again (.forLoop target it body orelse env))
            | .brk => .pure (.done .next)
            | .ret v => .pure (.done (.ret v))) (fun e => (do noteFrame e env; theTreesLotGoes e : Sem Unit).wrap (fun _ => .raise e) .raise id id) id id) fs s₂) (fun _ _ => False) s₁) (fun _ _ => False) s')
      (fun _ _ => False) s) :
    Seg (model prog w) A R Y n s₀ (.forLoop target it body orelse env) ((model prog w).den (.forLoop target it body orelse env)) fs s := by
  show Seg _ A R Y n s₀ _ ((forTurn target it body orelse env).onRaise (fun x => do noteFrame x env; theTreesLotGoes x)) fs s
  unfold forTurn
  rw [Sem.onRaise_eq_wrap]
  refine seg_bindw (wpAny_standAt (seg_bindw (wpAny_onRaise (wpAny_mono h (fun r s' hr => ?_) fun _ _ x => x.elim))))
  obtain ⟨v, rfl, hr⟩ := hr
  refine seg_bindw (wpAny_mono hr (fun _ s₁ h₁ => ?_) fun _ _ x => x)
  refine seg_bindw (wpAny_mono h₁ (fun _ s₂ h₂ => ?_) fun _ _ x => x)
  rw [Sem.bind_eq_wrap', Sem.wrap_wrap]
  rw [Sem.wrap_congr (execs body env) _ _ (K' := fun f => match f with
            | .next | .cont => .pure (.again (.forLoop target it body orelse env))
            | .brk => .pure (.done .next)
            | .ret v => .pure (.done (.ret v))) (H' := (fun e => (do noteFrame e env; theTreesLotGoes e : Sem Unit).wrap (fun _ => .raise e) .raise id id))
        (fun f => by cases f <;> rfl)
        (fun e => by first | exact Sem.bind_eq_wrap _ _ | (show (do noteFrame e env; theTreesLotGoes e : Sem Unit).bind (fun _ => .raise e) = _; rw [Sem.bind_eq_wrap]))]
  exact h₂
end
end Mine
end
section
open PySem PySem.W PySem.Calls PyProof.Rows
set_option maxRecDepth 100000
namespace Mine

/-- every live thing of a heap but what is left out -/
def liveBut (h : Heap) (P : Addr → Obj → Bool) : List (Addr × Obj) := (List.range h.objs.size).filterMap fun b => match h.get? b with | some o => if P b o then none else some (b, o) | none => none
theorem mem_liveBut {h : Heap} {P : Addr → Obj → Bool} {b : Addr} {o : Obj} : (b, o) ∈ liveBut h P ↔ h.get? b = some o ∧ P b o = false := by
  unfold liveBut
  rw [List.mem_filterMap]
  constructor
  · rintro ⟨a, -, e⟩
    split at e
    · rename_i o' q
      split at e
      · cases e
      · rename_i hp
        cases e
        exact ⟨q, by simpa using hp⟩
    · cases e
  · rintro ⟨q, hp⟩
    exact ⟨b, List.mem_range.mpr (Heap.lt_size q), by rw [q]; simp [hp]⟩

/-- a list iterator -/
def isIt (o : Obj) : Prop := o.cls = .type "list_iterator" ∧ ∃ f, o.data = .fields f
theorem isIt.of {l : Addr} {i : Nat} {o : Obj} (h : itl l i o) : isIt o := ⟨h.1, _, h.2⟩
/-- the generator's protocol: it gives the size, and touches its own locals and its own list iterator alone -/
def gY (B : Heap) (size : Int) (Lg lg : Addr) : Protocol := fun n s₀ v s' kap => (∃ t, v = .int size t) ∧ ∃ (h' : Heap) (tk' : Nat) (fp : List (Addr × Obj)), s' = { s₀ with heap := h', toks := tk' } ∧
  (∀ b o, b ≠ Lg → ¬ isIt o → s₀.heap.get? b = some o → h'.get? b = some o) ∧ (∀ b o, B.get? b = some o → h'.get? b = some o) ∧ (∃ o, (Lg, o) ∈ fp) ∧
  (∀ p ∈ fp, h'.get? p.1 = some p.2 ∧ B.get? p.1 = none ∧ (p.1 = Lg ∨ p.1 = lg ∨ isIt p.2)) ∧
  (n = 0 ∨ ∀ s'', (∀ b o, B.get? b = some o → s''.heap.get? b = some o) → (∀ p ∈ fp, s''.heap.get? p.1 = some p.2) → kap (.send .none) s'')
def gR : GenEnd := fun _ _ r _ => r = .ok (.ret .none) ∧ False

section
variable {prog : Program} {w : World} {A : Around} {E : Value → Shared → Prop} {s : Shared}
theorem own_next {B : Heap} {Lg I l : Addr} {m : Str → Option Value} {cn : List (Addr × Obj)} {io lo : Obj} {i : Nat} {items : Array Value} {k : Nat} {v : Value} {Q : Option Value → Shared → Prop}
    (F : Fr B Lg s.heap m) (N : News B Lg s.heap ((I, io) :: (l, lo) :: cn)) (hio : itl l i io) (hl : lo.cls = .type "list") (hd : lo.data = .seq items k) (hv : items[i]? = some v) (hlI : l ≠ I) (hcn : ∀ p ∈ cn, p.1 ≠ I)
    (h : ∀ h' io', itl l (i + 1) io' → Fr B Lg h' m → News B Lg h' ((I, io') :: (l, lo) :: cn) → Q (some v) { s with heap := h' }) : wpAny (model prog w) A (pyNext (.ref I)) Q E s := by
  have I0 := N _ (.head _)
  refine wpAny_pyNext_list_item (l := l) (i := i) ⟨io, I0.1, hio.1, hio.2⟩ ⟨lo, (N _ (.tail _ (.head _))).1, hl, k, hd⟩ hv fun h₁ hit₁ hs₁ => ?_
  obtain ⟨io', ho', hc', hd'⟩ := hit₁
  refine h h₁ io' ⟨hc', hd'⟩ ⟨F.ns.extBut hs₁.extBut (Ne.symm I0.2.1), fun b o e => (hs₁.2 b (fun q => by have := I0.2.2; rw [← q, e] at this; cases this)).trans (F.keep b o e), F.above⟩ fun p hp => ?_
  rcases List.mem_cons.mp hp with rfl | hp
  · exact ⟨ho', I0.2⟩
  · refine ⟨(hs₁.2 _ ?_).trans (N p (.tail _ hp)).1, (N p (.tail _ hp)).2⟩
    rcases List.mem_cons.mp hp with rfl | hp
    · exact hlI
    · exact hcn p hp

/-- what a yield leaves -/
theorem gY_of {B : Heap} {size : Int} {Lg lg I : Addr} {n : Nat} {s₀ : Shared} {h' : Heap} {tk' : Nat} {t : Tok} {m : Str → Option Value} {cn : List (Addr × Obj)} {io lo : Obj} {kap : Resume → Shared → Prop}
    (F : Fr B Lg h' m) (N : News B Lg h' ((I, io) :: (lg, lo) :: cn)) (hio : isIt io)
    (hcn : ∀ b o, b ≠ Lg → ¬ isIt o → s₀.heap.get? b = some o → (∃ o', B.get? b = some o' ∧ s₀.heap.get? b = some o') ∨ (b, o) = (lg, lo) ∨ (b, o) ∈ cn)
    (k : n = 0 ∨ ∀ s'', Fr B Lg s''.heap m → News B Lg s''.heap [(I, io), (lg, lo)] → kap (.send .none) s'') :
    gY B size Lg lg n s₀ (.int size t) { s₀ with heap := h', toks := tk' } kap := by
  obtain ⟨oL, es, ep, hoL, rest⟩ := F.ns
  refine ⟨⟨_, rfl⟩, h', tk', [(Lg, oL), (I, io), (lg, lo)], rfl, fun b o hb hc e => ?_, F.keep, ⟨_, .head _⟩, fun p hp => ?_, ?_⟩
  · rcases hcn b o hb hc e with ⟨o', q1, q2⟩ | q | q
    · rw [q2] at e; cases e; exact F.keep _ _ q1
    · cases q; exact (N _ (.tail _ (.head _))).1
    · exact (N _ (.tail _ (.tail _ q))).1
  · simp only [List.mem_cons, List.not_mem_nil, or_false] at hp
    rcases hp with rfl | rfl | rfl
    · exact ⟨hoL, fr_get F, .inl rfl⟩
    · exact ⟨(N _ (.head _)).1, (N _ (.head _)).2.2, .inr (.inr hio)⟩
    · exact ⟨(N _ (.tail _ (.head _))).1, (N _ (.tail _ (.head _))).2.2, .inr (.inl rfl)⟩
  · refine k.imp id fun k s'' hB hf => k s'' ⟨⟨oL, es, ep, hf _ (.head _), rest⟩, hB, F.above⟩ fun p hp => ?_
    simp only [List.mem_cons, List.not_mem_nil, or_false] at hp
    rcases hp with rfl | rfl
    · exact ⟨hf _ (.tail _ (.head _)), (N _ (.head _)).2⟩
    · exact ⟨hf _ (.tail _ (.tail _ (.head _))), (N _ (.tail _ (.head _))).2⟩
/-- the rest of a heap, put into the generator's ledger -/
theorem cover {B h : Heap} {Lg : Addr} {m : Str → Option Value} {own : List (Addr × Obj)} (F : Fr B Lg h m) (N : News B Lg h own) :
    ∃ cn, News B Lg h (own ++ cn) ∧ (∀ p ∈ cn, ∀ q ∈ own, p.1 ≠ q.1) ∧
      ∀ b o, b ≠ Lg → h.get? b = some o → (∃ o', B.get? b = some o' ∧ h.get? b = some o') ∨ (b, o) ∈ own ∨ (b, o) ∈ cn := by
  refine ⟨liveBut h fun b _ => decide (b = Lg) || (own.map (·.1)).contains b || (B.get? b).isSome, fun p hp => ?_, fun p hp q hq e => ?_, fun b o hb e => ?_⟩
  · rcases List.mem_append.mp hp with hp | hp
    · exact N p hp
    · obtain ⟨b, o⟩ := p
      obtain ⟨q1, q2⟩ := mem_liveBut.mp hp
      simp only [Bool.or_eq_false_iff, decide_eq_false_iff_not] at q2
      exact ⟨q1, q2.1.1, by simpa using q2.2⟩
  · obtain ⟨b, o⟩ := p
    obtain ⟨q1, q2⟩ := mem_liveBut.mp hp
    simp only [Bool.or_eq_false_iff, decide_eq_false_iff_not] at q2
    have := q2.1.2
    rw [List.contains_eq_mem] at this
    simp only [decide_eq_false_iff_not] at this
    exact this (by rw [show b = q.1 from e]; exact List.mem_map_of_mem hq)
  · cases hB : B.get? b with
    | some o' => exact .inl ⟨o', rfl, F.keep _ _ hB⟩
    | none =>
      by_cases q : b ∈ own.map (·.1)
      · obtain ⟨p, hp, rfl⟩ := List.mem_map.mp q
        have := (N p hp).1
        rw [e] at this
        cases this
        exact .inr (.inl hp)
      · refine .inr (.inr (mem_liveBut.mpr ⟨e, ?_⟩))
        simp only [Bool.or_eq_false_iff, decide_eq_false_iff_not, List.contains_eq_mem]
        exact ⟨⟨hb, q⟩, by rw [hB]; rfl⟩
end
end Mine
end
section
open PySem PySem.W PySem.Calls PyProof.Rows
set_option maxRecDepth 100000
namespace Mine
section
variable {prog : Program} {w : World} {A : Around} {E : Value → Shared → Prop} {s : Shared}
theorem enter_gen {R : Result → Shared → Prop} {name qual : Str} {params : Arguments} {body : List Stmt} {scope : Scope} {dV kV doc pm cdv ct oc : Value} {an od : Option Addr} {osl : Array (Option Value)} {f : Addr} {args : Args} {binds : List (Str × Value)}
    (G : Gl w s.heap) (hA : Room A 1)
    (ho : (Mine.mk.heap_1 w.params).lookup f = some ⟨oc, od, .func (fnOf name qual params body scope dV kV doc pm an cdv ct), osl⟩) (hcd : codeIn (Mine.mk.heap_1 w.params) cdv qual = true)
    (hbind : BindsTo s (fnOf name qual params body scope dV kV doc pm an cdv ct) args binds) (hloc : ∀ y ∈ binds, scope.names.lookup y.1 = some .local)
    (hcell : ∀ x ∈ scope.names, x.2 ≠ .cell)
    (h : ∀ h₁ tk, Fr s.heap s.heap.objs.size h₁ (fun y => binds.reverse.lookup y) → 
      R (.ok (.ret (.ref h₁.objs.size))) { s with gens := s.gens.push (.fresh (.func body (envOf qual scope s.heap.objs.size f cdv))), heap := h₁.push { cls := .type "generator", data := .fields #[.int s.gens.size 0, .str name tk, .str qual (tk + 1)] }, toks := tk + 2 })
    (hco : scope.isCoroutine = false := by rfl) (hgen : scope.isGenerator = true := by rfl) (hk : scope.kind = .function := by rfl) : codeAny (model prog w) A (.call (.ref f) args) R s := by
  refine codeAny_call_generator (fd := fnOf name qual params body scope dV kV doc pm an cdv ct) (body := body) (by have := hA.dp; omega) (G.k _ _ ho) rfl hco hgen rfl (codeRec_of G.k hcd) ?_
  refine hbind _ _ _ _ (wpAny_newFunctionEnv hcell hloc (fun h₀ hns₀ hsb₀ => ⟨G.lim.fresh _ hsb₀, ?_⟩) hk)
  exact h h₀ _ ⟨hns₀, fun b o e => hsb₀.extBut b o (Nat.ne_of_lt (Heap.lt_size e)) (Heap.get?_push_of_some _ e), Nat.le_refl _⟩
end
end Mine
end
section
open PySem PySem.W PySem.Calls PyProof.Rows
set_option maxRecDepth 100000
namespace Mine
/-- a generator that can be asked n times more -/
def GenReady (prog : Program) (w : World) (A : Around) (B : Heap) (size : Int) (Lg lg : Addr) (n : Nat) (gs : GenState) (fp : List (Addr × Obj)) : Prop :=
  gs.bare = true ∧ (∃ o, (Lg, o) ∈ fp) ∧ (∀ p ∈ fp, B.get? p.1 = none ∧ (p.1 = Lg ∨ p.1 = lg ∨ isIt p.2)) ∧
  (n = 0 ∨ ∀ s'' : Shared, (∀ b o, B.get? b = some o → s''.heap.get? b = some o) → (∀ p ∈ fp, s''.heap.get? p.1 = some p.2) → gs.Goes (model prog w) A.in1 gR (gY B size Lg lg) n (.send .none) s'')
section
variable {prog : Program} {w : World} {A : Around} {E : Value → Shared → Prop} {s : Shared}
set_option maxHeartbeats 4000000 in
theorem while_stage {B : Heap} {Lg lg I : Addr} {size : Int} {t1 : Tok} {io lo : Obj} {m : Str → Option Value} {fs : List Frame} {p1 p2 p3 p4 : Pos} {name : Str} {a : Addr} {cd : Value}
    (hfs : splitAtGen fs = none) (hfg : fs.any Frame.guarded = false) (hio : isIt io) (hm : m (Str.ofString "last_interval") = some (.int size t1)) :
    ∀ (k : Nat) (s₀ : Shared) (h : Heap) (tk : Nat) (cn : List (Addr × Obj)), Fr B Lg h m → News B Lg h ((I, io) :: (lg, lo) :: cn) →
      (∀ b o, b ≠ Lg → ¬ isIt o → s₀.heap.get? b = some o → (∃ o', B.get? b = some o' ∧ s₀.heap.get? b = some o') ∨ (b, o) = (lg, lo) ∨ (b, o) ∈ cn) →
      Seg (model prog w) A gR (gY B size Lg lg) (k + 1) s₀
        (.whileLoop (.Constant (.bool true) 0 p1) [.Expr (.Yield (some (.Name (Str.ofString "last_interval") p2)) p3) p4] [] (envOf name { kind := .function, isGenerator := true, isCoroutine := false, names := [(Str.ofString "grouping", NameKind.local), (Str.ofString "last_interval", NameKind.local), (Str.ofString "interval", NameKind.local), (Str.ofString "CHAR_MAX", NameKind.globalImplicit), (Str.ofString "ValueError", NameKind.globalImplicit)] } Lg a cd))
        ((model prog w).den (.whileLoop (.Constant (.bool true) 0 p1) [.Expr (.Yield (some (.Name (Str.ofString "last_interval") p2)) p3) p4] [] (envOf name { kind := .function, isGenerator := true, isCoroutine := false, names := [(Str.ofString "grouping", NameKind.local), (Str.ofString "last_interval", NameKind.local), (Str.ofString "interval", NameKind.local), (Str.ofString "CHAR_MAX", NameKind.globalImplicit), (Str.ofString "ValueError", NameKind.globalImplicit)] } Lg a cd)))
        fs { s₀ with heap := h, toks := tk } := by
  intro k
  induction k with
  | zero =>
    intro s₀ h tk cn F N hc
    refine seg_whileLoop ?_
    k_steps
    refine seg_execs_cons (seg_Expr_Yield hfs rfl hfg (wpAny_Name (wpAny_loadName_local rfl rfl F.ns hm fun kap hkap => ?_) (by decide)))
    exact gY_of F N hio hc (.inl rfl)
  | succ k ih =>
    intro s₀ h tk cn F N hc
    refine seg_whileLoop ?_
    k_steps
    refine seg_execs_cons (seg_Expr_Yield hfs rfl hfg (wpAny_Name (wpAny_loadName_local rfl rfl F.ns hm fun kap hkap => ?_) (by decide)))
    refine gY_of F N hio hc (.inr fun s3 F6 N6 => hkap .none s3 ?_)
    dsimp only
    obtain ⟨cn2, N7, hne2, hcov2⟩ := cover F6 N6
    simp only [List.cons_append, List.nil_append] at N7
    refine seg_execs_nil (seg_again rfl (ih s3 s3.heap s3.toks cn2 F6 N7 ?_))
    intro b o hb hc e
    rcases hcov2 b o hb e with q | q | q
    · exact .inl q
    · simp only [List.mem_cons, List.not_mem_nil, or_false] at q
      rcases q with q | q
      · cases q; exact absurd hio hc
      · exact .inr (.inl q)
    · exact .inr (.inr q)
set_option maxHeartbeats 4000000 in
theorem gen_call {Q : Value → Shared → Prop} {B : Heap} {lg : Addr} {size : Int} {t1 t2 t3 : Tok} {ep : Nat} (h2 : 2 ≤ size) (h8 : size ≤ 8)
    (hl : s.heap.get? lg = some (listOf #[.int size t1, .int 0 t2, .int 1 t3] ep)) (hlB : B.get? lg = none) (G : Gl w B) (hB : ∀ b o, B.get? b = some o → s.heap.get? b = some o) (hBs : B.objs.size ≤ s.heap.objs.size) (hA : Room A 3)
    (ret : ∀ h' tk' gs fp go nm qn, GenReady prog w A B size s.heap.objs.size lg 20 gs fp → (∀ b o, s.heap.get? b = some o → h'.get? b = some o) → s.heap.objs.size < go →
      h'.get? go = some { cls := .type "generator", data := .fields #[.int s.gens.size 0, nm, qn] } → (∀ p ∈ fp, h'.get? p.1 = some p.2) → Q (.ref go) { s with heap := h', toks := tk', gens := s.gens.push gs }) :
    wpAny (model prog w) A (call (.ref 45) [.ref lg]) Q E s := by
  refine wpAny_call (enter_gen (binds := [("grouping", .ref lg)]) (G.keeps hB) (hA.le (by omega)) (by rfl) (by rfl) (.of_eq rfl) (locs rfl) (by decide) fun h₁ tk F => ?_)
  dsimp only
  obtain ⟨oL, es, epL, hoL, restL⟩ := F.ns
  refine ret _ _ _ [(s.heap.objs.size, oL), (lg, listOf #[.int size t1, .int 0 t2, .int 1 t3] ep)] _ _ _ ⟨rfl, ⟨_, .head _⟩, ?_, .inr fun s'' hB'' hf => ⟨rfl, ?_⟩⟩ (fun b o e => Heap.get?_push_of_some _ (F.keep b o e)) (Heap.lt_size hoL) (Heap.get?_push_size _ rfl) ?_
  · intro p hp
    simp only [List.mem_cons, List.not_mem_nil, or_false] at hp
    rcases hp with rfl | rfl
    · refine ⟨?_, .inl rfl⟩
      cases e : B.get? s.heap.objs.size with
      | none => rfl
      | some o => exact absurd (Heap.lt_size e) (Nat.not_lt.mpr hBs)
    · exact ⟨hlB, .inr (.inl rfl)⟩
  · -- the walk
    obtain ⟨p, loose, mg, mb, T⟩ := G.t
    have X := G.k
    generalize hLg : s.heap.objs.size = Lg at *
    have F0 : Fr B Lg s''.heap (fun y => List.lookup y [(Str.ofString "grouping", Value.ref lg)].reverse) := ⟨⟨oL, es, epL, hf _ (.head _), restL⟩, hB'', hBs⟩
    have hll : lg ≠ Lg := fun q => by rw [← hLg] at q; exact Nat.lt_irrefl _ (q ▸ Heap.lt_size hl)
    obtain ⟨cn, N0, -, hcov⟩ := cover (own := [(lg, listOf #[.int size t1, .int 0 t2, .int 1 t3] ep)]) F0 (fun p hp => by
      rcases List.mem_cons.mp hp with rfl | hp
      · exact ⟨hf _ (.tail _ (.head _)), hll, hlB⟩
      · cases hp)
    simp only [List.cons_append, List.nil_append, List.mem_singleton] at N0 hcov
    refine seg_func (seg_plain ?_)
    k_steps
    refine seg_execs_cons (seg_For ?_)
    k_steps
    rename Fr _ _ _ _ => F1
    rename News _ _ _ _ => N1
    refine wpAny_pyIter_list ⟨_, (N1 _ (.head _)).1, rfl, _, rfl⟩ fun p => ?_
    have F2 := F1.push { cls := .type "list_iterator", data := .fields #[.ref lg, .int 0 0] }
    have N2 := N1.push F1 { cls := .type "list_iterator", data := .fields #[.ref lg, .int 0 0] }
    dsimp only
    have hI := Nat.ne_of_lt (Heap.lt_size (N1 _ (.head _)).1)
    have hcI := fun (p : Addr × Obj) (hp : p ∈ cn) => Nat.ne_of_lt (Heap.lt_size (N1 p (.tail _ hp)).1)
    refine seg_forLoop (own_next F2 N2 ⟨rfl, rfl⟩ rfl rfl (v := .int size t1) (i := 0) rfl hI hcI fun h' io' hio' F3 N3 => ⟨_, rfl, wpAny_pure ?_⟩)
    clear F1 N1 F2 N2
    k_steps
    refine seg_plain ?_
    k_steps
    any_goals (exfalso; omega)
    refine seg_plain ?_
    k_steps
    any_goals (exfalso; omega)
    refine seg_execs_cons (seg_Expr_Yield rfl rfl rfl ?_)
    k_steps
    rename_i kap hkap
    rename Fr _ _ _ _ => F5
    rename News _ _ _ _ => N5
    refine gY_of F5 N5 (.of hio') ?_ (.inr fun s3 F6 N6 => hkap .none s3 ?_)
    · exact fun b o hb _ e => hcov b o hb e
    clear F5 N5 hcov hcI
    dsimp only
    obtain ⟨cn2, N7, hne2, hcov2⟩ := cover F6 N6
    simp only [List.cons_append, List.nil_append] at N7
    clear N6
    refine seg_plain ?_
    k_steps
    refine seg_execs_nil (seg_again rfl ?_)
    rename Fr _ _ _ _ => F8
    rename News _ _ _ _ => N8
    refine seg_forLoop (own_next F8 N8 hio' rfl rfl (v := .int 0 t2) (i := 1) rfl hI (fun p hp => hne2 p hp _ (.head _)) fun h'' io'' hio'' F9 N9 => ⟨_, rfl, wpAny_pure ?_⟩)
    clear F8 N8
    k_steps
    refine seg_plain ?_
    k_steps
    refine seg_execs_cons (seg_If ?_)
    k_steps
    refine seg_plain ?_
    k_steps
    refine seg_execs_cons (seg_While fun pw => ?_)
    rename Fr _ _ _ _ => F10
    rename News _ _ _ _ => N10
    refine while_stage (t1 := t1) (io := io'') ?_ ?_ (.of hio'') ?_ 18 s3 _ _ cn2 F10 N10 ?_
    · rfl
    · rfl
    · rfl
    · intro b o hb hc e
      rcases hcov2 b o hb e with q | q | q
      · exact .inl q
      · simp only [List.mem_cons, List.not_mem_nil, or_false] at q
        rcases q with q | q
        · cases q; exact absurd (.of hio') hc
        · exact .inr (.inl q)
      · exact .inr (.inr q)
  · intro p hp
    simp only [List.mem_cons, List.not_mem_nil, or_false] at hp
    rcases hp with rfl | rfl
    · exact Heap.get?_push_of_some _ hoL
    · exact Heap.get?_push_of_some _ (F.keep _ _ hl)
end
end Mine
end
section
open PySem PySem.W PySem.Calls PyProof.Rows
set_option maxRecDepth 100000
namespace Mine
section
variable {prog : Program} {w : World} {A : Around} {E : Value → Shared → Prop} {s : Shared}
theorem gen_next {B : Heap} {Lg lg go g n : Nat} {size : Int} {gs : GenState} {fp : List (Addr × Obj)} {Q : Option Value → Shared → Prop} (hh : A.handled = none)
    (hl : s.heap.NoLimit) (hroom : A.depth < recursionLimit) (R : GenReady prog w A B size Lg lg (n + 1) gs fp)
    (hg : s.heap.IsGen go g) (hgs : s.gens[g]? = some gs) (hB : ∀ b o, B.get? b = some o → s.heap.get? b = some o) (hf : ∀ p ∈ fp, s.heap.get? p.1 = some p.2)
    (h : ∀ t h' tk' gens' gs' fp', GenReady prog w A B size Lg lg n gs' fp' → (∀ b o, b ≠ Lg → ¬ isIt o → s.heap.get? b = some o → h'.get? b = some o) →
      (∀ b o, B.get? b = some o → h'.get? b = some o) → (∀ p ∈ fp', h'.get? p.1 = some p.2) → gens'[g]? = some gs' → ((∀ x ∈ s.gens, x.bare = true) → ∀ x ∈ gens', x.bare = true) →
      Q (some (.int size t)) { s with heap := h', toks := tk', gens := gens' }) :
    wpAny (model prog w) A (pyNext (.ref go)) Q E s := by
  obtain ⟨hb, -, -, hgo⟩ := R
  have hgo := hgo.resolve_left (by omega) (s.setGen g .running) hB hf
  unfold pyNext
  refine wpAny_bind (wpAny_attempt (wpAny_callSpecial?_slot (name := Str.ofString "__next__") hg.typeIs slot_gen_next
    (wpAny_call_entry slot_gen_next hg.typeIs entry_gen_next ?_ (args_gen_next _))))
  show wpAny _ A.in1 (Builtin.Generator.genWake (.ref go) (.send .none)) _ _ s
  unfold Builtin.Generator.genWake
  refine wpAny_bind (wpAny_holding (wpAny_genNumber hg (wpAny_bind (wpAny_genState hgs ?_))))
  cases gs with
  | running => exact hgo.elim
  | finished => exact hgo.elim
  | _ =>
    refine wpAny_bind (wpAny_roomToWake hl hroom ?_)
    show wpAny _ A.in1 (.resume g (.send .none) [] _) _ _ s
    refine wpAny_resumeQ hgs hgo (fun x s₁ hx => hx.2.elim) (fun v s₁ gs' hb' hv => ?_)
    obtain ⟨⟨t, rfl⟩, h', tk', fp', rfl, q1, q2, q5, q3, q4⟩ := hv
    refine wpAny_pure ⟨_, rfl, wpAny_pure ?_⟩
    refine h t h' tk' ((s.setGen g .running).gens.setIfInBounds g gs') gs' fp' ⟨hb', q5, fun p hp => (q3 p hp).2, ?_⟩ q1 q2 (fun p hp => (q3 p hp).1) (setGen_self (setGen_self hgs)) ?_
    · cases n with
      | zero => exact .inl rfl
      | succ m => exact .inr fun s'' e1 e2 => (q4.resolve_left (by omega)) s'' e1 e2
    · intro hall x hx
      rcases Array.mem_or_eq_of_mem_setIfInBounds hx with hx | rfl
      · rcases Array.mem_or_eq_of_mem_setIfInBounds hx with hx | rfl
        · exact hall x hx
        · rfl
      · exact hb'
end
end Mine
end
section
open PySem PySem.W PySem.Calls PyProof.Rows
set_option maxRecDepth 100000
namespace Mine
/-- a turn's end: ledger, names, invariant -/
def TurnEnd (h₀ : Heap) (L : Addr) (names : List Str) (m : Str → Option Value) (own : List (Addr × Obj)) (J : (Str → Option Value) → List (Addr × Obj) → Array GenState → Prop) (s s₃ : Shared) : Prop :=
  ∃ h' tk' g' m₂ news₂, s₃ = { s with heap := h', toks := tk', gens := g' } ∧ Fr h₀ L h' m₂ ∧ (∀ y, names.contains y = false → m₂ y = m y) ∧ News h₀ L h' (own ++ news₂) ∧ J m₂ news₂ g'
def TurnPost (h₀ : Heap) (L : Addr) (names : List Str) (m : Str → Option Value) (own : List (Addr × Obj)) (J : (Str → Option Value) → List (Addr × Obj) → Array GenState → Prop) (s : Shared) (Q : Flow → Shared → Prop) (fl : Flow) (s₃ : Shared) : Prop :=
  match fl with
  | .ret v => Q (.ret v) s₃
  | .brk => Q .next s₃
  | _ => TurnEnd h₀ L names m own J s s₃
/-- a turn's end in a loop over a generator -/
def GenPost (h₀ : Heap) (L : Addr) (names : List Str) (m : Str → Option Value) (fp₁ : List (Addr × Obj)) (go : Addr) (gobj : Obj) (J : (Str → Option Value) → List (Addr × Obj) → Prop) (s : Shared) (g : Array GenState) (Q : Flow → Shared → Prop) (fl : Flow) (s₃ : Shared) : Prop :=
  match fl with
  | .ret v => Q (.ret v) s₃
  | .brk => Q .next s₃
  | _ => ∃ h' tk' m₂ news₂, s₃ = { s with heap := h', toks := tk', gens := g } ∧ Fr h₀ L h' m₂ ∧ (∀ y, names.contains y = false → m₂ y = m y) ∧ News h₀ L h' (fp₁ ++ (go, gobj) :: news₂) ∧ J m₂ news₂
section
variable {prog : Program} {w : World} {A : Around} {E : Value → Shared → Prop} {s : Shared}
theorem for_rng {env : Env} {h₀ : Heap} {m : Str → Option Value} {r : Addr} {a b : Int} {n : Nat} {t₁ t₂ t₃ : Tok} {news : List (Addr × Obj)} {x : Str} {px : Pos} {body : List Stmt} {Q : Flow → Shared → Prop}
    (names : List Str) (J : Nat → (Str → Option Value) → List (Addr × Obj) → Array GenState → Prop)
    (hh : A.handled = none) (F : Fr h₀ env.locals s.heap m) (N : News h₀ env.locals s.heap news) (hr : IsRange s.heap r a b 1 t₁ t₂ t₃) (hsm : Builtin.Range.small a b 1 = true) (hn : Builtin.Range.rangeSize a b 1 = (n : Int))
    (hJ : J 0 m news s.gens) (hJI : ∀ i m nw g, J i m nw g → ∀ p ∈ nw, p.2.cls ≠ .type "range_iterator")
    (turn : ∀ i t f news₁ I io h tk g, i < n → J i f news₁ g → Fr h₀ env.locals h (updL names f m) → News h₀ env.locals h ((I, io) :: news₁) → io.cls = .type "range_iterator" →
      wpAny (model prog w) A (assign (.Name x px) env (.int (a + (i : Int)) t)) (fun _ s₂ => wpAny (model prog w) A (execs body env) (TurnPost h₀ env.locals names m [(I, io)] (J (i + 1)) s Q)
        (fun _ _ => False) s₂) (fun _ _ => False) { s with heap := h, toks := tk, gens := g })
    (done : ∀ f news₁ h tk g, J n f news₁ g → Fr h₀ env.locals h (updL names f m) → News h₀ env.locals h news₁ → Q .next { s with heap := h, toks := tk, gens := g }) :
    wpAny (model prog w) A (pyIter (.ref r)) (fun it s₂ => codeAny (model prog w) A (.forLoop (.Name x px) it body [] env) (fun r s' => match r with | .ok f => Q f s' | .error e => cameBackBy (model prog w) A env E e s') s₂) E s := by
  refine wpAny_pyIter_range hr hsm ?_
  have W := Walks.range (prog := prog) (w := w) (A := A) hh s.heap.objs.size a 1 n
  have hI0 : h₀.get? s.heap.objs.size = none := by
    cases q : h₀.get? s.heap.objs.size with
    | none => rfl
    | some o => exact absurd (Heap.lt_size (F.keep _ _ q)) (Nat.lt_irrefl _)
  obtain ⟨oL, _, _, hoL, _⟩ := F.ns
  have hLI : env.locals ≠ s.heap.objs.size := Nat.ne_of_lt (Heap.lt_size hoL)
  generalize hI : s.heap.objs.size = I at *
  refine codeAny_forLoop_any
    (fun k s' => ∃ h tk g m₁ news₁ io i, s' = { s with heap := h, toks := tk, gens := g } ∧ i ≤ n ∧ k = n - i ∧ J i m₁ news₁ g ∧ (∀ y, names.contains y = false → m₁ y = m y) ∧ io.cls = .type "range_iterator" ∧ IsRangeIter h I (a + (i : Int) * 1) ((n : Int) - (i : Int)) 1 ∧ Fr h₀ env.locals h m₁ ∧ News h₀ env.locals h ((I, io) :: news₁))
    ?_ n ⟨_, _, _, m, news, { cls := .type "range_iterator", data := .fields #[rawInt a, rawInt (Builtin.Range.rangeSize a b 1), rawInt 1] }, 0, rfl, Nat.zero_le _, rfl, hJ, fun _ _ => rfl, rfl, (by rw [hn]; subst hI; simpa [IsRangeIter] using Heap.get?_push_size _ rfl), F.push _, fun p hp => ?_⟩
  · rintro k s' ⟨h, tk, g, m₁, news₁, io, i, rfl, hi, rfl, hJ', hoff, hio, hit, F₁, N₁⟩
    have I0 := N₁ _ (.head _)
    have hnI : ∀ p ∈ news₁, p.1 ≠ I := fun p hp q => by
      have h1 := (N₁ p (.tail _ hp)).1
      rw [q] at h1
      have h2 := I0.1
      rw [h1] at h2
      exact hJI _ _ _ _ hJ' p hp ((congrArg Obj.cls (Option.some.inj h2)).trans hio)
    have upF : ∀ h₁, (∀ b o, b ∉ [I] → h.get? b = some o → h₁.get? b = some o) → Fr h₀ env.locals h₁ m₁ := fun h₁ k => ⟨F₁.ns.at' fun o e => k _ o (fun q => I0.2.1 (List.mem_singleton.mp q).symm) e, fun b o e => k b o (fun q => by rw [List.mem_singleton.mp q, I0.2.2] at e; cases e) (F₁.keep b o e), F₁.above⟩
    rcases Nat.lt_or_eq_of_le hi with hlt | rfl
    · refine W.item i _ _ _ hlt hit fun v h₁ tk₁ hv hit₁ hk₁ => ?_
      obtain ⟨t, rfl⟩ := hv
      refine wpAny_pure ?_
      obtain ⟨io', hio', hci', hup'⟩ : ∃ io', h₁.get? I = some io' ∧ io'.cls = .type "range_iterator" ∧ (∀ h : Heap, h.get? I = some io' → IsRangeIter h I (a + ((i + 1 : Nat) : Int) * 1) ((n : Int) - ((i + 1 : Nat) : Int)) 1) := ⟨_, hit₁, rfl, fun _ e => e⟩
      have N₂ : News h₀ env.locals h₁ ((I, io') :: news₁) := fun p hp => by
        rcases List.mem_cons.mp hp with rfl | hp
        · exact ⟨hio', I0.2⟩
        · exact ⟨hk₁ _ _ (fun q => hnI p hp (List.mem_singleton.mp q)) (N₁ p (.tail _ hp)).1, (N₁ p (.tail _ hp)).2⟩
      have F₂ := upF h₁ hk₁
      rw [updL_self hoff] at F₂
      rw [Int.mul_one]
      refine wpAny_mono (turn i t m₁ news₁ I io' h₁ tk₁ g hlt hJ' F₂ N₂ hci') (fun _ s₂ h₂ => wpAny_mono h₂ (fun f s₃ h₃ => ?_) fun _ _ x => x.elim) fun _ _ x => x.elim
      have fin : TurnEnd h₀ env.locals names m [(I, io')] (J (i + 1)) s s₃ →
          ∃ k', k' < n - i ∧ ∃ h tk g m₁ news₁ io i, s₃ = { s with heap := h, toks := tk, gens := g } ∧ i ≤ n ∧ k' = n - i ∧ J i m₁ news₁ g ∧ (∀ y, names.contains y = false → m₁ y = m y) ∧ io.cls = .type "range_iterator" ∧ IsRangeIter h I (a + (i : Int) * 1) ((n : Int) - (i : Int)) 1 ∧ Fr h₀ env.locals h m₁ ∧ News h₀ env.locals h ((I, io) :: news₁) := by
        rintro ⟨h', tk', g', m₂, news₂, rfl, F₃, hoff₃, N₃, hJ₃⟩
        exact ⟨n - (i + 1), by omega, h', tk', g', m₂, news₂, io', i + 1, rfl, hlt, rfl, hJ₃, hoff₃, hci', hup' _ (N₃ _ (.head _)).1, F₃, N₃⟩
      cases f with
      | ret v => exact h₃
      | brk => exact h₃
      | next => exact fin h₃
      | cont => exact fin h₃
    · refine W.done _ _ _ hit fun h₁ tk₁ hk₁ => wpAny_execs_nil ?_
      have F₂ := upF h₁ hk₁
      rw [updL_self hoff] at F₂
      exact done m₁ news₁ h₁ tk₁ g hJ' F₂ fun p hp => ⟨hk₁ _ _ (fun q => hnI p hp (List.mem_singleton.mp q)) (N₁ p (.tail _ hp)).1, (N₁ p (.tail _ hp)).2⟩
  · rcases List.mem_cons.mp hp with rfl | hp
    · exact ⟨by subst hI; exact Heap.get?_push_size _ rfl, Ne.symm hLI, hI0⟩
    · exact ⟨Heap.get?_push_of_some _ (N p hp).1, (N p hp).2⟩

theorem for_gen {env : Env} {h₀ : Heap} {m : Str → Option Value} {go Lg lg gi : Nat} {size : Int} {gobj : Obj} {nm qn : Value} {gs : GenState} {fp news : List (Addr × Obj)} {x : Str} {px : Pos} {body : List Stmt} {Q : Flow → Shared → Prop}
    (names : List Str) (J : Nat → (Str → Option Value) → List (Addr × Obj) → Prop) (hA : Room A 0) (G : Gl w h₀)
    (hgobj : gobj = { cls := .type "generator", data := .fields #[.int gi 0, nm, qn] }) (hgoL : go ≠ Lg) (hLL : env.locals ≠ Lg) (hLl : env.locals ≠ lg)
    (F : Fr h₀ env.locals s.heap m) (N : News h₀ env.locals s.heap (fp ++ (go, gobj) :: news)) (R : GenReady prog w A h₀ size Lg lg 20 gs fp) (hgs : s.gens[gi]? = some gs) (hall : ∀ x ∈ s.gens, x.bare = true)
    (hJ : J 0 m news) (hJn : ∀ k m nw, J k m nw → k < 20 ∧ ∀ p ∈ nw, p.1 ≠ Lg ∧ ¬ isIt p.2)
    (turn : ∀ k t f news₁ fp₁ h tk g, J k f news₁ → (∃ o, (Lg, o) ∈ fp₁) → (∀ p ∈ fp₁, p.1 = Lg ∨ p.1 = lg ∨ isIt p.2) → (∀ x ∈ g, x.bare = true) → Fr h₀ env.locals h (updL names f m) → News h₀ env.locals h (fp₁ ++ (go, gobj) :: news₁) →
      wpAny (model prog w) A (assign (.Name x px) env (.int size t)) (fun _ s₂ => wpAny (model prog w) A (execs body env) (GenPost h₀ env.locals names m fp₁ go gobj (J (k + 1)) s g Q)
        (fun _ _ => False) s₂) (fun _ _ => False) { s with heap := h, toks := tk, gens := g }) :
    wpAny (model prog w) A (pyIter (.ref go)) (fun it s₂ => codeAny (model prog w) A (.forLoop (.Name x px) it body [] env) (fun r s' => match r with | .ok f => Q f s' | .error e => cameBackBy (model prog w) A env E e s') s₂) E s := by
  have hgen : ∀ h : Heap, h.get? go = some gobj → h.IsGen go gi := fun h e => by
    subst hgobj
    exact ⟨_, nm, qn, e, rfl, rfl, rfl⟩
  refine wpAny_pyIter_gen (hgen _ (N _ (List.mem_append_right _ (.head _))).1) ?_
  have gone : ¬ isIt gobj := by subst hgobj; intro q; exact absurd q.1 (by simp)
  refine codeAny_forLoop_any
    (fun k' s' => ∃ h tk g m₁ news₁ fp₁ gs₁ k, s' = { s with heap := h, toks := tk, gens := g } ∧ k' + k = 20 ∧ J k m₁ news₁ ∧ (∀ y, names.contains y = false → m₁ y = m y) ∧ GenReady prog w A h₀ size Lg lg (20 - k) gs₁ fp₁ ∧ g[gi]? = some gs₁ ∧ (∀ x ∈ g, x.bare = true) ∧ Fr h₀ env.locals h m₁ ∧ News h₀ env.locals h (fp₁ ++ (go, gobj) :: news₁))
    ?_ 20 ⟨_, _, _, m, news, fp, gs, 0, rfl, rfl, hJ, fun _ _ => rfl, R, hgs, hall, F, N⟩
  rintro k' s' ⟨h, tk, g, m₁, news₁, fp₁, gs₁, k, rfl, hk', hJ', hoff, R₁, hgs₁, hall₁, F₁, N₁⟩
  obtain ⟨hk, hnw⟩ := hJn _ _ _ hJ'
  obtain ⟨j, hj⟩ : ∃ j, 20 - k = j + 1 := ⟨19 - k, by omega⟩
  rw [hj] at R₁
  have hgo₁ := N₁ (go, gobj) (List.mem_append_right _ (.head _))
  refine gen_next (n := j) hA.hd (G.keeps F₁.keep).lim (by have := hA.dp; omega) R₁ (hgen _ hgo₁.1) hgs₁ F₁.keep (fun p hp => (N₁ p (List.mem_append_left _ hp)).1) fun t h' tk' g' gs' fp' R' hk₁ hB' hf' hgs' hall' => ?_
  obtain ⟨oL, es, ep, hoL, hdL, restL⟩ := F₁.ns
  have hoL' := hk₁ _ oL hLL (fun q => by obtain ⟨_, f, q⟩ := q; rw [hdL] at q; cases q) hoL
  have F₂ : Fr h₀ env.locals h' m₁ := ⟨⟨oL, es, ep, hoL', hdL, restL⟩, hB', F₁.above⟩
  rw [updL_self hoff] at F₂
  have N₂ : News h₀ env.locals h' (fp' ++ (go, gobj) :: news₁) := fun p hp => by
    rcases List.mem_append.mp hp with hp | hp
    · refine ⟨hf' p hp, fun q => ?_, (R'.2.2.1 p hp).1⟩
      rcases (R'.2.2.1 p hp).2 with e | e | e
      · exact hLL (q.symm.trans e)
      · exact hLl (q.symm.trans e)
      · have h1 := hf' p hp
        rw [q] at h1
        rw [hoL'] at h1
        cases h1
        obtain ⟨_, f, e⟩ := e; rw [hdL] at e; cases e
    · rcases List.mem_cons.mp hp with rfl | hp
      · exact ⟨hk₁ _ _ hgoL gone hgo₁.1, hgo₁.2⟩
      · have := N₁ p (List.mem_append_right _ (.tail _ hp))
        exact ⟨hk₁ _ _ (hnw p hp).1 (hnw p hp).2 this.1, this.2⟩
  refine wpAny_pure ?_
  refine wpAny_mono (turn k t m₁ news₁ fp' h' tk' g' hJ' R'.2.1 (fun p hp => (R'.2.2.1 p hp).2) (hall' hall₁) F₂ N₂) (fun _ s₂ h₂ => wpAny_mono h₂ (fun f s₃ h₃ => ?_) fun _ _ x => x.elim) fun _ _ x => x.elim
  have fin : (∃ h'' tk'' m₂ news₂, s₃ = { s with heap := h'', toks := tk'', gens := g' } ∧ Fr h₀ env.locals h'' m₂ ∧ (∀ y, names.contains y = false → m₂ y = m y) ∧ News h₀ env.locals h'' (fp' ++ (go, gobj) :: news₂) ∧ J (k + 1) m₂ news₂) →
      ∃ k'', k'' < k' ∧ ∃ h tk g m₁ news₁ fp₁ gs₁ k, s₃ = { s with heap := h, toks := tk, gens := g } ∧ k'' + k = 20 ∧ J k m₁ news₁ ∧ (∀ y, names.contains y = false → m₁ y = m y) ∧ GenReady prog w A h₀ size Lg lg (20 - k) gs₁ fp₁ ∧ g[gi]? = some gs₁ ∧ (∀ x ∈ g, x.bare = true) ∧ Fr h₀ env.locals h m₁ ∧ News h₀ env.locals h (fp₁ ++ (go, gobj) :: news₁) := by
    rintro ⟨h'', tk'', m₂, news₂, rfl, F₃, hoff₃, N₃, hJ₃⟩
    exact ⟨k' - 1, by omega, h'', tk'', g', m₂, news₂, fp', gs', k + 1, rfl, by omega, hJ₃, hoff₃, by rw [show 20 - (k + 1) = j by omega]; exact R', hgs', hall' hall₁, F₃, N₃⟩
  cases f with
  | ret v => exact h₃
  | brk => exact h₃
  | next => exact fin h₃
  | cont => exact fin h₃
end
end Mine
end
section
open PySem PySem.W PySem.Calls PyProof.Rows
set_option maxRecDepth 100000
namespace Mine
def symN (c t : Nat) : Int := 256 + (14 + (c : Int)) - (14 + (t : Int))
def kvOf (size t c : Nat) : KV := ⟨decide (symN c t < 256), (symN c t % (size : Int)).toNat, c⟩
/-- what setdefault does to a table, and what it gives -/
def lay (k : KV) (kvs : List KV) : List KV × Nat := match findK k.j kvs with
  | some c' => (kvs, c')
  | none => (kvs ++ [k], k.c)
/-- a card is laid in the table -/
def deal (size t : Nat) (st : List KV × List Nat) (c : Nat) : List KV × List Nat := ((lay (kvOf size t c) st.1).1, st.2 ++ [(lay (kvOf size t c) st.1).2])
structure Tab where
  size : Nat
  group : List Nat
  given : List Nat
  held : List Nat
def tabOf (size t : Nat) (group : List Nat) : Tab := ⟨size, group, (group.foldl (deal size t) ([], [])).2, (group.foldl (deal size t) ([], [])).1.map (·.c)⟩
def piece (cs : List Nat) (size k : Nat) : List Nat := (cs.drop (k * size)).take size
def tabsFor (cs : List Nat) (size k : Nat) : List Tab := (List.range k).map fun i => tabOf size (cs.headD 0) (piece cs size i)
def tabsUpTo (cs : List Nat) (i : Nat) : List Tab := (List.range i).flatMap fun j => tabsFor cs (2 + j) (cs.length / (2 + j))
theorem tabsUpTo_succ (cs : List Nat) (i : Nat) : tabsUpTo cs (i + 1) = tabsUpTo cs i ++ tabsFor cs (2 + i) (cs.length / (2 + i)) := by
  unfold tabsUpTo
  rw [List.range_succ, List.flatMap_append]
  simp
def dealt (size t : Nat) (g : List Nat) : List KV × List Nat := g.foldl (deal size t) ([], [])
theorem dealt_snoc (size t : Nat) (g : List Nat) (c : Nat) : dealt size t (g ++ [c]) = deal size t (dealt size t g) c := by simp [dealt]
theorem Paired.drop' {α β : Type} {F : α → β → Prop} : ∀ {l₁ : List α} {l₂ : List β} (n : Nat), Paired F l₁ l₂ → Paired F (l₁.drop n) (l₂.drop n)
  | _, _, 0, h => h
  | _, _, _ + 1, .nil => .nil
  | _, _, n + 1, .cons _ h => Paired.drop' n h
theorem Paired.take' {α β : Type} {F : α → β → Prop} : ∀ {l₁ : List α} {l₂ : List β} (n : Nat), Paired F l₁ l₂ → Paired F (l₁.take n) (l₂.take n)
  | _, _, 0, _ => .nil
  | _, _, _ + 1, .nil => .nil
  | _, _, n + 1, .cons a h => .cons a (Paired.take' n h)
theorem Paired.at' {α β : Type} {F : α → β → Prop} : ∀ {l₁ : List α} {l₂ : List β} (n : Nat) {b : β}, Paired F l₁ l₂ → l₂[n]? = some b → ∃ a, l₁[n]? = some a ∧ F a b
  | _, _, 0, _, .cons h _, e => ⟨_, rfl, by simpa using (Option.some.inj e) ▸ h⟩
  | _, _, n + 1, _, .cons _ h, e => Paired.at' n h (by simpa using e)
theorem lay_len (k : KV) (kvs : List KV) : (lay k kvs).1.length ≤ kvs.length + 1 := by unfold lay; split <;> simp
theorem dealt_len (size t : Nat) (g : List Nat) : (dealt size t g).1.length ≤ g.length ∧ (dealt size t g).2.length = g.length := by
  have : ∀ (g : List Nat) st, (g.foldl (deal size t) st).1.length ≤ st.1.length + g.length ∧ (g.foldl (deal size t) st).2.length = st.2.length + g.length := by
    intro g
    induction g with
    | nil => intro st; simp
    | cons c g ih =>
      intro st
      obtain ⟨h1, h2⟩ := ih (deal size t st c)
      have h3 := lay_len (kvOf size t c) st.1
      have e1 : (deal size t st c).1.length = (lay (kvOf size t c) st.1).1.length := rfl
      have e2 : (deal size t st c).2.length = st.2.length + 1 := by simp [deal]
      rw [List.foldl_cons, List.length_cons]
      exact ⟨by omega, by omega⟩
  have := this g ([], [])
  simpa [dealt] using this
theorem kvOf_ok {size t c : Nat} (h2 : 2 ≤ size) (h8 : size ≤ 8) (hc : c < 16) : (kvOf size t c).ok := by
  refine ⟨?_, hc⟩
  have h0 := Int.emod_nonneg (symN c t) (show (size : Int) ≠ 0 by omega)
  have h1 := Int.emod_lt_of_pos (symN c t) (show (0 : Int) < (size : Int) by omega)
  show (symN c t % (size : Int)).toNat < 8
  omega
theorem upd_off {ns names : List Str} {f m m₁ : Str → Option Value} (hs : ns.all names.contains = true) (h : ∀ y, names.contains y = false → m₁ y = m y) : ∀ y, names.contains y = false → updL ns f m₁ y = m y := fun y hy => by
  rw [updL_off, h y hy]
  cases q : ns.contains y with
  | false => rfl
  | true =>
    have := List.all_eq_true.mp hs y (by simpa using q)
    rw [hy] at this; cases this
theorem tabsFor_succ (cs : List Nat) (size k : Nat) : tabsFor cs size (k + 1) = tabsFor cs size k ++ [tabOf size (cs.headD 0) (piece cs size k)] := by
  unfold tabsFor
  rw [List.range_succ, List.map_append]
  rfl
theorem tabsUpTo_len {cs : List Nat} (h8 : cs.length ≤ 8) : ∀ i, (tabsUpTo cs i).length ≤ 4 * i
  | 0 => Nat.le_refl _
  | i + 1 => by
    rw [tabsUpTo_succ, List.length_append]
    have h1 := tabsUpTo_len h8 i
    have h2 : (tabsFor cs (2 + i) (cs.length / (2 + i))).length = cs.length / (2 + i) := by simp [tabsFor]
    have h3 : cs.length / (2 + i) ≤ cs.length / 2 := Nat.div_le_div_left (by omega) (by omega)
    omega
theorem int_tok {a b : Int} {t : Tok} (h : a = b) : some (Value.int a t) = some (.int b t) := by rw [h]
theorem rng_ok {n : Nat} (h5 : 5 ≤ n) (h8 : n ≤ 8) : Builtin.Range.small 2 ((n : Int) + 1) 1 = true ∧ Builtin.Range.rangeSize 2 ((n : Int) + 1) 1 = ((n - 1 : Nat) : Int) := by
  have : n = 5 ∨ n = 6 ∨ n = 7 ∨ n = 8 := by omega
  rcases this with e | e | e | e <;> subst e <;> decide
theorem piece_mem {cs : List Nat} {size k c : Nat} (h : c ∈ piece cs size k) : c ∈ cs := List.mem_of_mem_drop (List.mem_of_mem_take h)
/-- a list of faces, at an address -/
def FacesAt (h : Heap) (l : Addr) (cs : List Nat) : Prop := ∃ ys ep, h.get? l = some (listOf (List.toArray ys) ep) ∧ Paired SgV cs ys
def TabAt (h : Heap) (r : Tab) (v : Value) : Prop := ∃ T t a b c, v = .ref T ∧ IsTup h T #[.int (r.size : Int) t, .ref a, .ref b, .ref c] ∧ FacesAt h a r.group ∧ FacesAt h b r.given ∧ FacesAt h c r.held
def TabIn (done : List (Addr × Obj)) (r : Tab) (v : Value) : Prop := ∀ h : Heap, (∀ p ∈ done, h.get? p.1 = some p.2) → TabAt h r v
theorem fp_news {prog : Program} {w : World} {A : Around} {B h : Heap} {size : Int} {Lt Lg lg n : Nat} {gs : GenState} {fp : List (Addr × Obj)} {m : Str → Option Value} (R : GenReady prog w A B size Lg lg n gs fp) (F : Fr B Lt h m) (hf : ∀ p ∈ fp, h.get? p.1 = some p.2) (h1 : Lt ≠ Lg) (h2 : Lt ≠ lg) : News B Lt h fp := fun p hp => by
  refine ⟨hf p hp, fun q => ?_, (R.2.2.1 p hp).1⟩
  rcases (R.2.2.1 p hp).2 with e | e | e
  · exact h1 (q.symm.trans e)
  · exact h2 (q.symm.trans e)
  · obtain ⟨oL, es, ep, hoL, hdL, restL⟩ := F.ns
    have h1 := hf p hp
    rw [q, hoL] at h1
    cases h1
    obtain ⟨_, f, e⟩ := e; rw [hdL] at e; cases e
theorem news_app {h₀ h : Heap} {L : Addr} {a b : List (Addr × Obj)} (N : News h₀ L h a) (M : News h₀ L h b) : News h₀ L h (a ++ b) := fun p hp => (List.mem_append.mp hp).elim (N p) (M p)
theorem allLt_mem {d : Addr} : ∀ {l : List (Addr × Obj)}, AllLt d l → ∀ p ∈ l, p.1 < d
  | [], _, _, h => by cases h
  | a :: l, h, p, hp => by
    rcases List.mem_cons.mp hp with rfl | hp
    · exact h.1
    · exact allLt_mem h.2 p hp
theorem fr_known {h₀ h : Heap} {L : Addr} {m : Str → Option Value} {x : Str} {v : Value} (F : Fr h₀ L h m) (e : m x = some v) : Fr h₀ L h (fun y => if y = x then some v else m y) := by
  have : (fun y => if y = x then some v else m y) = m := by
    funext y
    by_cases q : y = x
    · subst q; rw [if_pos rfl, e]
    · rw [if_neg q]
  rw [this]; exact F
section
variable {prog : Program} {w : World} {A : Around} {E : Value → Shared → Prop} {s : Shared} {h₀ : Heap} {L : Addr} {m : Str → Option Value} {news : List (Addr × Obj)}
theorem len_faces {Q : Value → Shared → Prop} {D : Addr} {vs : List Value} {k n : Nat} (N : News h₀ L s.heap news) (hm : (D, listOf vs.toArray n) ∈ news) (hb : vs.length = k) (h8 : k ≤ 8) (h : Q (.int (k : Nat) (s.toks + 1)) { s with toks := s.toks + 1 + 1 }) :
    wpAny (model prog w) A (call (.builtin "len") [.ref D]) Q E s :=
  KM.len_K N hm (by rw [List.size_toArray]; exact hb) (by omega) h
theorem str_letter {value slice : PySem.Expr} {x : Str} {t u : Tok} {b : Bool} {i : Int} {Q : Value → Shared → Prop} (hx : x = if b then Str.ofString "abcdefgh" else Str.ofString "ABCDEFGH") (h0 : 0 ≤ i) (h1 : i < 8)
    (h : Q (.str (ltr b i.toNat) s.toks) { s with toks := s.toks + 1 })
    (hs : subscripted slice false (.str x t) (.int i u) = operate [.str x t, .int i u] (getItem (.str x t) (.int i u)) := by with_unfolding_all rfl)
    (ht : ∀ r, letTemporaryGo value (.str x t) r = pure () := by intro _; with_unfolding_all rfl) :
    wpAny (model prog w) A (subscriptTail value slice (.str x t) (.int i u)) Q E s := by
  have hl : x.length = 8 := by subst hx; cases b <;> rfl
  refine KXi.item (n := 8) hl (by omega) (by omega) (by decide) (fun _ => ?_) hs ht
  obtain ⟨j, rfl⟩ : ∃ j : Nat, i = (j : Int) := ⟨i.toNat, by omega⟩
  have hj : j < 8 := by omega
  have e : Txt.item x (j : Int) = ltr b j := by
    have : ∀ b : Bool, ∀ j : Fin 8, Txt.item (if b then Str.ofString "abcdefgh" else Str.ofString "ABCDEFGH") ((j : Nat) : Int) = ltr b j := by decide +kernel
    rw [hx]; exact this b ⟨j, hj⟩
  rw [e]
  simpa using h
theorem list_item {value slice : PySem.Expr} {l : Addr} {vs : List Value} {n k : Nat} {i : Int} {u : Tok} {x : Value} {Q : Value → Shared → Prop} (N : News h₀ L s.heap news) (hm : (l, listOf vs.toArray n) ∈ news) (hi : i = (k : Int)) (h8 : vs.length ≤ 16) (hx : vs[k]? = some x) (h : Q x s)
    (hs : subscripted slice false (.ref l) (.int i u) = operate [.ref l, .int i u] (getItem (.ref l) (.int i u)) := by with_unfolding_all rfl) :
    wpAny (model prog w) A (subscriptTail value slice (.ref l) (.int i u)) Q E s := by
  subst hi
  have hk : k < vs.length := (List.getElem?_eq_some_iff.mp hx).1
  exact tail_any (PySem.IsL.isList (n := n) (N _ hm).1).typeIs slot_list_getitem.lookup (wpAny_getItem_list (PySem.IsL.isList (n := n) (N _ hm).1) (by omega) (by omega) (by simpa using hx) h) hs
theorem slice_led {value slice : PySem.Expr} {l : Addr} {vs : List Value} {n : Nat} {a b : Int} {t u : Tok} {Q : Value → Shared → Prop} (F : Fr h₀ L s.heap m) (N : News h₀ L s.heap news) (hm : (l, listOf vs.toArray n) ∈ news) (h8 : vs.length ≤ 16) (ha : 0 ≤ a) (hab : a ≤ b) (hb : b ≤ vs.length)
    (h : ∀ D h', Fr h₀ L h' m → News h₀ L h' ((D, listOf ((vs.drop a.toNat).take (b.toNat - a.toNat)).toArray 0) :: news) → (∀ p ∈ news, p.1 < D) → Q (.ref D) { s with heap := h' })
    (hs : subscripted slice false (.ref l) (.ref s.heap.objs.size) = operate [.ref s.heap.objs.size, .ref l] (getItem (.ref l) (.ref s.heap.objs.size)) := by with_unfolding_all rfl) (ht : ∀ r, letTemporaryGo value (.ref l) r = pure () := by intro _; with_unfolding_all rfl) :
    wpAny (model prog w) A (subscriptTail value slice (.ref l) (.ref s.heap.objs.size)) Q E { s with heap := s.heap.push { cls := .type "slice", data := .fields #[.int a t, .int b u, .none] } } := by
  obtain ⟨a', rfl⟩ : ∃ a' : Nat, a = (a' : Int) := ⟨a.toNat, by omega⟩
  obtain ⟨b', rfl⟩ : ∃ b' : Nat, b = (b' : Int) := ⟨b.toNat, by omega⟩
  refine kmk_slice F N (PySem.IsL.isList (n := n) (N _ hm).1) (.int _ _) (.int _ _) (fun D h' F' N' l' => h D h' F' ?_ l') hs ht (Nat.le_trans (by simpa using h8) (show 16 ≤ sizeLine by decide))
  rw [slicePick_run _ _ _ (by simp; omega) (by omega)] at N'
  simpa using N'
theorem append_led {l : Addr} {its : List Value} {n : Nat} {x : Value} {Q : Value → Shared → Prop} (F : Fr h₀ L s.heap m) (N : News h₀ L s.heap ((l, listOf its.toArray n) :: news)) (hne : ∀ p ∈ news, p.1 ≠ l) (hsz : its.length ≤ sizeLine)
    (h : ∀ h', Fr h₀ L h' m → News h₀ L h' ((l, listOf (its ++ [x]).toArray (n + 1)) :: news) → Q .none { s with heap := h' }) : wpAny (model prog w) A (call (.builtin "list.append") [.ref l, x]) Q E s := by
  refine append_K F N (.head hne) (fun h' F' N' => h h' F' ?_) (by simpa using hsz)
  simpa using N'
theorem ne_cls {h : Heap} {a b : Addr} {o o' : Obj} (h1 : h.get? a = some o) (h2 : h.get? b = some o') (hc : o.cls ≠ o'.cls) : a ≠ b := fun e => by
  rw [e, h2] at h1; cases h1; exact hc rfl
theorem hide_tps {P : Params} {x dx hl : Addr} {t : Tok} {n : Nat} {its : Array Value} {ep : Nat} {h : Heap} {p : Addr × Obj} (hn : ∀ p ∈ hdObjs P x dx hl t n (listOf its ep), h.get? p.1 = some p.2) (hp : h.get? p.1 = some p.2) (hc : p.2.cls = .type "tuple") :
    (hideAll h ((hdObjs P x dx hl t n (listOf its ep)).map (·.1))).get? p.1 = some p.2 := by
  refine hideAll_get _ hp fun q => ?_
  obtain ⟨p', hq', e⟩ := List.mem_map.mp q
  have h1 := hn p' hq'
  rw [e, hp] at h1
  rw [Option.some.inj h1] at hc
  simp only [hdObjs, List.mem_cons, List.not_mem_nil, or_false] at hq'
  rcases hq' with rfl | rfl | rfl <;> simp [W.listOf, dictOf, instObj] at hc
theorem values_led {Q : Value → Shared → Prop} {x dx hl : Addr} {t : Tok} {n ep : Nat} {items : List Value} {kvs : List KV} {tps tail : List (Addr × Obj)}
    (F : Fr h₀ L s.heap m) (N : News h₀ L s.heap (hdObjs w.params x dx hl t n (listOf items.toArray ep) ++ tail)) (G : Gl w h₀) (hA : Room A 3) (hlen : kvs.length ≤ 8)
    (hp : ∀ h : Heap, (∀ p ∈ tps, h.get? p.1 = some p.2) → Pairs h items kvs) (ht : ∀ p ∈ tps, p ∈ tail ∧ p.2.cls = .type "tuple")
    (ret : ∀ D ys ep' h' tk', Paired SgV (kvs.map (·.c)) ys → Fr h₀ L h' m → News h₀ L h' ((D, listOf (List.toArray ys) ep') :: (hdObjs w.params x dx hl t n (listOf items.toArray ep) ++ tail)) → (∀ p ∈ hdObjs w.params x dx hl t n (listOf items.toArray ep) ++ tail, p.1 ≠ D) → Q (.ref D) { s with heap := h', toks := tk' }) :
    wpAny (model prog w) A (call (.ref 152) [.ref x]) Q E s := by
  have hn : ∀ p ∈ hdObjs w.params x dx hl t n (listOf items.toArray ep), s.heap.get? p.1 = some p.2 := fun p hp => (N p (List.mem_append_left _ hp)).1
  have hNh : News h₀ L s.heap (hdObjs w.params x dx hl t n (listOf items.toArray ep)) := fun p hp => N p (List.mem_append_left _ hp)
  refine values_spec hn (G.keeps (up_hide F hNh)) hA (hp _ fun p hp' => hide_tps hn (N p (List.mem_append_right _ (ht p hp').1)).1 (ht p hp').2) hlen fun D ys ep' h' tk' hys hk hD0 hD => ?_
  refine ret D ys ep' h' tk' hys (fr_keeps F hk) (fun p hp => ?_) fun p hp q => by rw [← q, (N p hp).1] at hD0; cases hD0
  rcases List.mem_cons.mp hp with rfl | hp
  · refine ⟨hD, fun q => ?_, ?_⟩
    · obtain ⟨o, _, _, ho, _⟩ := F.ns
      dsimp only at q
      rw [← q, hD0] at ho; cases ho
    · cases e : h₀.get? D with
      | none => rfl
      | some o => rw [F.keep _ _ e] at hD0; cases hD0
  · exact ⟨hk _ _ (N p hp).1, (N p hp).2⟩
theorem setdef_led {Q : Value → Shared → Prop} {x dx hl : Addr} {t tn tv : Tok} {n ep : Nat} {items : List Value} {kvs : List KV} {k : KV} {tps tail : List (Addr × Obj)} (hk : k.ok)
    (F : Fr h₀ L s.heap m) (N : News h₀ L s.heap (hdObjs w.params x dx hl t n (listOf items.toArray ep) ++ tail)) (G : Gl w h₀) (hA : Room A 4) (hlen : kvs.length ≤ 8)
    (hp : ∀ h : Heap, (∀ p ∈ tps, h.get? p.1 = some p.2) → Pairs h items kvs) (ht : ∀ p ∈ tps, p ∈ tail ∧ p.2.cls = .type "tuple") (hne : ∀ p ∈ tail, p.1 ≠ hl)
    (ret : ∀ v h' tk' items' ep' tps', SgV (lay k kvs).2 v → (∀ h : Heap, (∀ p ∈ tps', h.get? p.1 = some p.2) → Pairs h items' (lay k kvs).1) → (∀ p ∈ tps', p.2.cls = .type "tuple" ∧ (p ∈ tps ∨ s.heap.get? p.1 = none)) →
      Fr h₀ L h' m → News h₀ L h' (hdObjs w.params x dx hl t n (listOf items'.toArray ep') ++ (tps' ++ tail)) → Q v { s with heap := h', toks := tk' }) :
    wpAny (model prog w) A (call (.ref 185) [.ref x, .str (ltr k.b k.j) tn, .str (sg k.c) tv]) Q E s := by
  have hn : ∀ p ∈ hdObjs w.params x dx hl t n (listOf items.toArray ep), s.heap.get? p.1 = some p.2 := fun p hp => (N p (List.mem_append_left _ hp)).1
  have htl : ∀ p ∈ tps, s.heap.get? p.1 = some p.2 := fun p hp => (N p (List.mem_append_right _ (ht p hp).1)).1
  have hNh : News h₀ L s.heap (hdObjs w.params x dx hl t n (listOf items.toArray ep)) := fun p hp => N p (List.mem_append_left _ hp)
  have hxx := hd_ne hn
  refine setdef_spec hk.1 hk.2 hn (G.keeps (up_hide F hNh)) hA (hp _ fun p hp' => hideAll_get _ (htl p hp') fun q => ?_) hlen fun v h' tk' items' ep' hc hkeep hhl => ?_
  · obtain ⟨p', hq', e⟩ := List.mem_map.mp q
    have h1 := hn p' hq'
    rw [e, htl p hp'] at h1
    have h2 := (ht p hp').2
    rw [Option.some.inj h1] at h2
    simp only [hdObjs, List.mem_cons, List.not_mem_nil, or_false] at hq'
    rcases hq' with rfl | rfl | rfl <;> simp [W.listOf, dictOf, instObj] at h2
  · have hlN := N (hl, listOf items.toArray ep) (List.mem_append_left _ (.tail _ (.tail _ (.head _))))
    have hk' : Keep [hl] s.heap h' := fun b o e hb => hkeep b o e fun q => hb (by rw [q]; exact .head _)
    have F' : Fr h₀ L h' m := fr_upd F hk' (by intro b hb; rw [List.mem_singleton.mp hb]; exact hlN.2.2) (by intro hb; exact hlN.2.1 (List.mem_singleton.mp hb).symm)
    have N' : ∀ extra, News h₀ L h' extra → News h₀ L h' (hdObjs w.params x dx hl t n (listOf items'.toArray ep') ++ (extra ++ tail)) := fun extra Ne p hp => by
      rcases List.mem_append.mp hp with hp | hp
      · simp only [hdObjs, List.mem_cons, List.not_mem_nil, or_false] at hp
        rcases hp with rfl | rfl | rfl
        · have := N (x, instObj 195 dx) (List.mem_append_left _ (.head _))
          exact ⟨hkeep _ _ this.1 hxx.1, this.2⟩
        · have := N (dx, dictOf [⟨PyData.keyHash w.params (Str.ofString "_headers"), .str (Str.ofString "_headers") t, .ref hl⟩] n) (List.mem_append_left _ (.tail _ (.head _)))
          exact ⟨hkeep _ _ this.1 hxx.2, this.2⟩
        · exact ⟨hhl, hlN.2⟩
      · rcases List.mem_append.mp hp with hp | hp
        · exact Ne p hp
        · have := N p (List.mem_append_right _ hp)
          exact ⟨hkeep _ _ this.1 (hne p hp), this.2⟩
    have Ntps : News h₀ L h' tps := fun p hp => by
      have := N p (List.mem_append_right _ (ht p hp).1)
      exact ⟨hkeep _ _ this.1 (hne p (ht p hp).1), this.2⟩
    cases hf : findK k.j kvs with
    | some c' =>
      rw [hf] at hc
      obtain ⟨hv, rfl⟩ := hc
      have el : lay k kvs = (kvs, c') := by unfold lay; rw [hf]
      exact ret v h' tk' items' ep' tps (by rw [el]; exact hv) (by rw [el]; exact hp) (fun p hp => ⟨(ht p hp).2, .inl hp⟩) F' (N' _ Ntps)
    | none =>
      rw [hf] at hc
      obtain ⟨hv, T, t1, t2, rfl, hT, hT0⟩ := hc
      have el : lay k kvs = (kvs ++ [k], k.c) := by unfold lay; rw [hf]
      obtain ⟨oT, hoT, hcT, hdT⟩ := hT
      refine ret v h' tk' _ ep' ((T, oT) :: tps) (by rw [el]; exact hv) ?_ ?_ F' (N' _ ?_)
      · rw [el]
        intro h hh
        have hp' := hp h fun p hp => hh p (.tail _ hp)
        refine ⟨by simp [hp'.1], fun i k' v' e1 e2 => ?_⟩
        rcases Nat.lt_or_ge i kvs.length with hi | hi
        · rw [List.getElem?_append_left hi] at e1
          rw [List.getElem?_append_left (hp'.1 ▸ hi)] at e2
          exact hp'.2 i k' v' e1 e2
        · rw [List.getElem?_append_right hi] at e1
          rw [List.getElem?_append_right (hp'.1 ▸ hi)] at e2
          obtain ⟨q, rfl⟩ : i - kvs.length = 0 ∧ k' = k := by
            cases hq : i - kvs.length with
            | zero => rw [hq] at e1; exact ⟨rfl, (Option.some.inj e1).symm⟩
            | succ z => rw [hq] at e1; simp at e1
          rw [hp'.1, q] at e2
          obtain rfl := Option.some.inj e2
          exact ⟨hk, T, t1, t2, rfl, oT, hh _ (.head _), hcT, hdT⟩
      · intro p hp
        rcases List.mem_cons.mp hp with rfl | hp
        · exact ⟨hcT, .inr hT0⟩
        · exact ⟨(ht p hp).2, .inl hp⟩
      · intro p hp
        rcases List.mem_cons.mp hp with rfl | hp
        · refine ⟨hoT, fun q => ?_, ?_⟩
          · obtain ⟨o, _, _, ho, _⟩ := F.ns
            dsimp only at q
            rw [← q, hT0] at ho; cases ho
          · cases e : h₀.get? T with
            | none => rfl
            | some o => rw [F.keep _ _ e] at hT0; cases hT0
        · exact Ntps p hp
end
end Mine
end
section
open PySem PySem.W PySem.Calls PyProof.Rows
set_option maxRecDepth 100000
namespace Mine
section
variable {prog : Program} {w : World} {A : Around} {E : Value → Shared → Prop} {s : Shared}
local macro_rules | `(tactic| walk_at "exec For Name Call cons") => `(tactic| (k_here; refine Halt.mk ?_))
local macro_rules | `(tactic| walk_at "exec For") => `(tactic| (k_here; refine Halt.mk ?_))
local macro_rules | `(tactic| walk_at "exec For Name Call") => `(tactic| (k_here; refine Halt.mk ?_))
local macro_rules | `(tactic| walk_at "exec For Name Call cons nil") => `(tactic| (k_here; refine Halt.mk ?_))
local macro_rules | `(tactic| walk_at "last exec For") => `(tactic| (k_here; refine Halt.mk ?_))
local macro_rules | `(tactic| walk_at "last exec For Name") => `(tactic| (k_here; refine Halt.mk ?_))
local macro_rules | `(tactic| walk_at "call builtin:len") => `(tactic| (k_here; (refine len_faces (by assumption) (by k_mem) (by assumption) (by assumption) ?_); (try dsimp only)))
local macro_rules | `(tactic| walk_at "subscriptTail") => `(tactic| (k_here; (with_reducible show wpAny _ _ (subscriptTail _ (Expr.Slice _ _ none _) (Value.ref _) (Value.ref _)) _ _ _); (with_reducible rename Fr _ _ _ _ => F'); (with_reducible rename News _ _ _ _ => N'); (refine slice_led (s := ⟨_, _, _, _, _⟩) F' N' (by k_mem) (by omega) (by omega) (by omega) (by omega) ?_); (intro D' h' F2' N2' l2'); (try dsimp only); clear F' N'))
local macro_rules | `(tactic| walk_at "call ref") => `(tactic| (k_here; first
  | ((with_unfolding_all refine symbol_spec (Gl.keeps (by assumption) (Fr.keep (by assumption))) (Room.deeper (by assumption) _) (by assumption) (by assumption) ?_); intro hz tz tz' kz; (have Fz := fr_keeps (by assumption) kz); (have Nz := news_keeps (by assumption) kz); clear kz; (try dsimp only))
  | ((with_unfolding_all refine isterm_spec (Gl.keeps (by assumption) (Fr.keep (by assumption))) (Room.deeper (by assumption) _) ?_); intro hz tz kz; (have Fz := fr_keeps (by assumption) kz); (have Nz := news_keeps (by assumption) kz); clear kz; (try dsimp only))
  | refine Halt.mk ?_))
local macro_rules | `(tactic| walk_at "subscriptTail") => `(tactic| (k_here; (with_reducible show wpAny _ _ (subscriptTail _ _ (Value.ref _) (Value.int _ _)) _ _ _); (refine list_item (k := 0) (by assumption) (by k_mem) (by rfl) (by omega) (by assumption) ?_)))
local macro_rules | `(tactic| walk_at "subscriptTail") => `(tactic| (k_here; (with_reducible show wpAny _ _ (subscriptTail _ _ (Value.str _ _) (Value.int _ _)) _ _ _); refine Halt.mk ?_))
local macro_rules | `(tactic| walk_at "call builtin:list.append") => `(tactic| (k_here; refine Halt.mk ?_))
set_option maxHeartbeats 4000000 in
theorem tables_spec {Q : Value → Shared → Prop} {fl : Addr} {epf : Nat} {cs : List Nat} {fvs : List Value} (hfv : Paired SgV cs fvs) (hc : ∀ c ∈ cs, c < 16) (h5 : 5 ≤ cs.length) (h8 : cs.length ≤ 8)
    (hn : s.heap.get? fl = some (listOf fvs.toArray epf)) (G : Gl w (hideAll s.heap [fl])) (hA : Room A 6) (hall : ∀ x ∈ s.gens, x.bare = true)
    (ret : ∀ T ep tabs h' tk' g', Paired (TabAt h') (tabsUpTo cs (cs.length - 1)) tabs → (∀ b o, s.heap.get? b = some o → h'.get? b = some o) → h'.get? T = some (listOf (List.toArray tabs) ep) → s.heap.get? T = none → (∀ x ∈ g', x.bare = true) → Q (.ref T) { s with heap := h', toks := tk', gens := g' }) :
    wpAny (model prog w) A (call (.ref 223) [.ref fl]) Q E s := by
  refine wpAny_call (enter_fnN (binds := [("faces", .ref fl)]) (news := [(fl, listOf fvs.toArray epf)]) (by intro p hp; rw [List.mem_singleton.mp hp]; exact hn) G (hA.le (by omega)) (by rfl) (by rfl) (.of_eq rfl) (locs rfl) (by decide) fun h₁ F N => ?_)
  simp only [List.map_cons, List.map_nil] at F N
  obtain ⟨p, loose, mg, mb, T⟩ := G.t
  have X := G.k
  dsimp only
  have hlen : fvs.length = cs.length := hfv.length.symm
  obtain ⟨top, ttop, htop, htop16, hhd⟩ : ∃ top tt, fvs[0]? = some (.str (sg top) tt) ∧ top < 16 ∧ cs.headD 0 = top := by
    cases hfv with
    | nil => simp at h5
    | cons a b => obtain ⟨t, rfl⟩ := a; exact ⟨_, t, rfl, hc _ (.head _), rfl⟩
  k_steps
  refine wpAny_For ?_
  k_steps
  rename IsRange _ _ _ _ _ _ _ _ => hR
  rename Fr _ _ _ _ => F1
  rename News _ _ _ _ => N1
  have hAd : ∀ env, Room (A.deeper env) 5 := fun env => hA.deeper env
  rename_i tb _ l1 _ _ _ _ _ _ _ _ _
  generalize hBB : hideAll s.heap [fl] = B at *
  generalize hLL : s.heap.objs.size = Lt at *
  have GB : Gl w B := by first | exact G | (rw [← hBB]; exact G)
  refine for_rng (n := cs.length - 1) (x := Str.ofString "size") (m := fun y => if y = Str.ofString "tables" then some (Value.ref tb) else List.lookup y [(Str.ofString "faces", Value.ref fl)].reverse)
    ["size", "begun", "step", "table", "given", "face", "symbol", "letters"]
    (fun i f nw g => (∃ tabs ep done, nw = (tb, listOf (List.toArray tabs) ep) :: (fl, listOf fvs.toArray epf) :: done ∧ Paired (TabIn done) (tabsUpTo cs i) tabs ∧ ∀ p ∈ done, p.1 ≠ tb ∧ p.2.cls ≠ .type "range_iterator" ∧ ¬ isIt p.2) ∧ ∀ x ∈ g, x.bare = true)
    hA.hd F1 N1 hR (rng_ok h5 h8).1 (rng_ok h5 h8).2 ⟨⟨[], 0, [], rfl, .nil, fun p hp => by cases hp⟩, hall⟩ (by
        rintro i m nw g ⟨⟨tabs, ep, done, rfl, -, hd⟩, -⟩ p hp
        simp only [List.mem_cons] at hp
        rcases hp with rfl | rfl | hp
        · simp [W.listOf]
        · simp [W.listOf]
        · exact (hd p hp).2.1) (fun i t f news₁ I io h tk g hi hJ F2 N2 hio => ?_) (fun f news₁ h tk g hJ F2 N2 => ?_)
  · clear F1 N1
    obtain ⟨⟨tabs, ep, done, rfl, hpt, hdone⟩, hbare⟩ := hJ
    k_steps
    refine wpAny_For ?_
    k_steps
    rename Fr _ _ _ _ => F3
    rename News _ _ _ _ => N3
    rename _ ∧ _ => l3
    rename_i h3 tk3 h4 lg h5'
    clear F2 N2
    have hLtlt : ∀ {h m}, Fr B Lt h m → Lt < h.objs.size := fun F => by obtain ⟨_, _, _, hoL, _⟩ := F.ns; exact Heap.lt_size hoL
    refine gen_call (B := B) (lg := lg) (size := 2 + (i : Int)) (by omega) (by omega) (N3 _ (.head _)).1 (N3 _ (.head _)).2.2 GB F3.keep (Nat.le_of_lt (Nat.lt_of_le_of_lt F3.above (hLtlt F3))) ((hAd _).le (by omega)) (fun h6 tk6 gs fp go nm qn R hk6 hlt hgo hfp => ?_)
    dsimp only
    have hlg3 := Heap.lt_size (N3 _ (.head _)).1
    have hLt3 := hLtlt F3
    have htb3 := Heap.lt_size (N3 _ (.tail _ (.tail _ (.head _)))).1
    have hfl3 := Heap.lt_size (N3 _ (.tail _ (.tail _ (.tail _ (.head _))))).1
    have hI3 := Heap.lt_size (N3 _ (.tail _ (.head _))).1
    have hd3 := fun (p : Addr × Obj) (hp : p ∈ done) => Heap.lt_size (N3 p (.tail _ (.tail _ (.tail _ (.tail _ hp))))).1
    have hlgL := (N3 _ (.head _)).2.1
    have F4 := fr_keeps F3 hk6
    have N4r : News B Lt h6 ((tb, listOf (List.toArray tabs) ep) :: (fl, listOf fvs.toArray epf) :: (I, io) :: done) := (news_keeps (news_sub N3 (news' := (tb, listOf (List.toArray tabs) ep) :: (fl, listOf fvs.toArray epf) :: (I, io) :: done) fun p hp => by
      simp only [List.mem_cons] at hp ⊢
      rcases hp with hp | hp | hp | hp <;> simp [hp]) hk6)
    have Ngo : News B Lt h6 [(go, { cls := .type "generator", data := .fields #[.int g.size 0, nm, qn] })] := fun p hp => by
      rw [List.mem_singleton.mp hp]
      refine ⟨hgo, Nat.ne_of_gt (Nat.lt_trans hLt3 hlt), ?_⟩
      cases q : B.get? go with
      | none => rfl
      | some o => exact absurd (Nat.lt_of_lt_of_le (Heap.lt_size q) F3.above) (Nat.not_lt.mpr (Nat.le_of_lt (Nat.lt_trans hLt3 hlt)))
    have N4 := news_app (fp_news R F4 hfp (Nat.ne_of_lt hLt3) (Ne.symm hlgL)) (news_app Ngo N4r)
    clear F3 N3 N4r Ngo
    have hbare' : ∀ x ∈ g.push gs, x.bare = true := by
      intro x hx
      rcases Array.mem_push.mp hx with hx | rfl
      · exact hbare x hx
      · exact R.1
    dsimp only at R hlt hlg3 htb3 hfl3 hI3 hd3 hlgL hk6
    generalize hLg : h5'.objs.size = Lg at R hlt hlg3 hLt3 htb3 hfl3 hI3 hd3
    generalize hgob : ({ cls := .type "generator", data := .fields #[.int g.size 0, nm, qn] } : Obj) = gob at N4 hgo
    refine for_gen (gi := g.size) (nm := nm) (qn := qn) (gs := gs) (x := Str.ofString "step") ["step", "table", "given", "face", "symbol", "letters", "begun"]
      (fun k f nw => (∃ t, f (Str.ofString "begun") = some (.int ((k * (2 + i) : Nat) : Int) t)) ∧ k * (2 + i) ≤ cs.length ∧ ∃ tabs ep done, nw = (tb, listOf (List.toArray tabs) ep) :: (fl, listOf fvs.toArray epf) :: (I, io) :: done ∧ Paired (TabIn done) (tabsUpTo cs i ++ tabsFor cs (2 + i) k) tabs ∧ ∀ p ∈ done, p.1 ≠ tb ∧ p.1 ≠ Lg ∧ p.2.cls ≠ .type "range_iterator" ∧ ¬ isIt p.2)
      ((hAd _).le (by omega)) GB hgob.symm (Nat.ne_of_gt hlt) (Nat.ne_of_lt hLt3) (Ne.symm hlgL) F4 N4 R (by simp) hbare' ⟨⟨_, by simp; rfl⟩, by omega, tabs, ep, done, rfl, by simpa [tabsFor] using hpt, fun p hp => ⟨(hdone p hp).1, Nat.ne_of_lt (hd3 p hp), (hdone p hp).2⟩⟩ ?_ ?_
    · rintro k m nw ⟨-, hk, tabs, ep, done, rfl, -, hd⟩
      refine ⟨?_, fun p hp => ?_⟩
      · have := Nat.mul_le_mul_left k (show 2 ≤ 2 + i by omega)
        omega
      · simp only [List.mem_cons] at hp
        rcases hp with rfl | rfl | rfl | hp
        · exact ⟨Nat.ne_of_lt htb3, fun q => absurd q.1 (by simp [W.listOf])⟩
        · exact ⟨Nat.ne_of_lt hfl3, fun q => absurd q.1 (by simp [W.listOf])⟩
        · exact ⟨Nat.ne_of_lt hI3, fun q => absurd q.1 (by rw [hio]; simp)⟩
        · exact ⟨(hd p hp).2.1, (hd p hp).2.2.2⟩
    · clear F4 N4 hpt hdone hd3
      rintro k t2 f2 _ fp₁ h7 tk7 g7 ⟨⟨tb2, hbeg⟩, hk8, tabs, ep, done, rfl, hpt, hdone⟩ hLgin hfp₁ hbare7 F5 N5
      obtain ⟨b0, hb0⟩ : ∃ b0, b0 = k * (2 + i) := ⟨_, rfl⟩
      rw [← hb0] at hbeg hk8
      have F6 := fr_known F5 (x := Str.ofString "begun") (v := .int (b0 : Int) tb2) (by simpa [updL] using hbeg)
      have hgolive := N5 _ (List.mem_append_right _ (.head _))
      have hrtb : ∀ p ∈ fp₁ ++ (go, gob) :: done, p.1 ≠ tb := by
        intro p hp
        rcases List.mem_append.mp hp with hp | hp
        · rcases hfp₁ p hp with e | e | e
          · rw [e]; exact Nat.ne_of_gt htb3
          · rw [e]; exact Nat.ne_of_gt l3.2.1
          · intro q
            have h1 := (N5 p (List.mem_append_left _ hp)).1
            rw [q, (N5 (tb, _) (List.mem_append_right _ (.tail _ (.head _)))).1] at h1
            have := congrArg Obj.cls (Option.some.inj h1)
            rw [e.1] at this
            simp [W.listOf] at this
        · rcases List.mem_cons.mp hp with rfl | hp
          · exact Nat.ne_of_gt (Nat.lt_trans htb3 hlt)
          · exact (hdone p hp).1
      have N6 : News B Lt h7 ((tb, listOf (List.toArray tabs) ep) :: (fl, listOf fvs.toArray epf) :: (I, io) :: (fp₁ ++ (go, gob) :: done)) := news_sub N5 fun p hp => by
        simp only [List.mem_cons, List.mem_append] at hp ⊢
        rcases hp with hp | hp | hp | hp | hp | hp <;> simp [hp]
      obtain ⟨rest, hrest⟩ : ∃ rest, rest = fp₁ ++ (go, gob) :: done := ⟨_, rfl⟩
      rw [← hrest] at N6 hrtb
      clear F5 N5
      k_steps
      · -- the row has too few cards left
        unfold GenPost
        dsimp only
        k_steps
        rename Fr _ _ _ _ => F7
        rename News _ _ _ _ => N7
        rename _ < _ => hlt8
        have hkk : cs.length / (2 + i) = k := by
          have e1 : cs.length < (k + 1) * (2 + i) := by
            rw [Nat.add_mul, Nat.one_mul, ← hb0]; omega
          exact Nat.div_eq_of_lt_le (hb0 ▸ hk8) e1
        exact ⟨_, _, _, _, (tb, listOf (List.toArray tabs) ep) :: (fl, listOf fvs.toArray epf) :: done, rfl, F7, st_off rfl (st_off rfl (upd_off rfl (st_off rfl (st_off rfl updL_offs)))), news_sub N7 (by
          intro p hp
          simp only [List.mem_cons, List.mem_append, List.not_mem_nil, or_false, hrest] at hp ⊢
          rcases hp with hp | hp | hp | hp <;> simp [hp]), ⟨tabs, ep, done, rfl, by rw [tabsUpTo_succ, hkk]; exact hpt, fun p hp => ⟨(hdone p hp).1, (hdone p hp).2.2⟩⟩, hbare7⟩
      · rename Fr _ _ _ _ => F7
        rename News _ _ _ _ => N7
        rename _ ∧ _ => l7
        rename ¬ _ < _ => hle8
        rename_i h8' tk8 tk9 hl h9
        refine headers_spec F7 N7 GB ((hAd _).le (by omega)) (fun x dx h10 tk10 tdx ndx F8 N8 l8 l8' => ?_)
        unfold hdObjs at N8
        simp only [List.cons_append, List.nil_append] at N8
        clear F7 N7
        k_steps
        refine wpAny_For ?_
        k_steps
        rename Fr _ _ _ _ => F9
        rename News _ _ _ _ => N9
        rename ∀ p ∈ (_ : List (Addr × Obj)), @LT.lt Nat _ p.1 _ => lD
        rename _ ∧ _ => lE
        rename_i _ _ el _ _ D _
        have eg : List.take (((b0 : Int) + (2 + (i : Int))).toNat - (b0 : Int).toNat) (List.drop (b0 : Int).toNat fvs) = (fvs.drop b0).take (2 + i) := by
          have e1 : ((b0 : Int) + (2 + (i : Int))).toNat - (b0 : Int).toNat = 2 + i := by omega
          have e2 : (b0 : Int).toNat = b0 := by omega
          rw [e1, e2]
        rw [eg] at N9
        have hgrp : Paired SgV (piece cs (2 + i) k) ((fvs.drop b0).take (2 + i)) := by unfold piece; rw [← hb0]; exact Paired.take' _ (Paired.drop' _ hfv)
        generalize (fvs.drop b0).take (2 + i) = grp at N9 hgrp
        generalize hpc : piece cs (2 + i) k = pc at hgrp
        have hA2 : Room A 2 := hA.le (by omega)
        refine for_led2 (l := D) (items := grp.toArray) (n := 0) (news := (el, listOf (List.toArray []) 0) :: (x, instObj 195 dx) :: (dx, dictOf [⟨PyData.keyHash w.params (Str.ofString "_headers"), .str (Str.ofString "_headers") tdx, .ref hl⟩] ndx) :: (hl, listOf (List.toArray []) 0) :: (tb, listOf (List.toArray tabs) ep) :: (fl, listOf fvs.toArray epf) :: (I, io) :: rest) ["face", "symbol", "letters"]
          (fun j f nw g' => g' = g7 ∧ ∃ items gvals ep1 ep2 tps, nw = (el, listOf (List.toArray gvals) ep2) :: (x, instObj 195 dx) :: (dx, dictOf [⟨PyData.keyHash w.params (Str.ofString "_headers"), .str (Str.ofString "_headers") tdx, .ref hl⟩] ndx) :: (hl, listOf (List.toArray items) ep1) :: (tb, listOf (List.toArray tabs) ep) :: (fl, listOf fvs.toArray epf) :: (I, io) :: (tps ++ rest) ∧
            (∀ h : Heap, (∀ p ∈ tps, h.get? p.1 = some p.2) → Pairs h items (dealt (2 + i) top (pc.take j)).1) ∧ Paired SgV (dealt (2 + i) top (pc.take j)).2 gvals ∧ ∀ p ∈ tps, p.2.cls = .type "tuple")
          (hAd _).hd rfl rfl F9 N9 (fun p hp => Nat.ne_of_lt (lD p hp)) ?_ (fun _ _ _ _ _ _ _ _ => lot_name) ?_ ?_
        · exact ⟨rfl, [], [], 0, 0, [], rfl, fun h _ => ⟨rfl, fun i k v e => by simp [dealt] at e⟩, .nil, fun p hp => by cases hp⟩
        · clear F9 N9
          rintro j v f3 _ I2 io2 h11 tk11 _ hv ⟨rfl, items, gvals, ep1, ep2, tps, rfl, hprs, hgv, htps⟩ hoff hDI F10 N10
          obtain ⟨c, hcj, tv, rfl⟩ := Paired.at' j hgrp (by simpa using hv)
          have hc16 : c < 16 := hc c (piece_mem (size := 2 + i) (k := k) (by rw [hpc]; exact List.mem_of_getElem? hcj))
          have hfm : (256 + (14 + (c : Int)) - (14 + (top : Int))).fmod (2 + (i : Int)) = symN c top % ((2 + i : Nat) : Int) := by
            rw [Int.fmod_eq_emod_of_nonneg _ (by omega)]; unfold symN; push_cast; rfl
          have hi0 := Int.emod_nonneg (symN c top) (show ((2 + i : Nat) : Int) ≠ 0 by omega)
          have hi1 := Int.emod_lt_of_pos (symN c top) (show (0 : Int) < ((2 + i : Nat) : Int) by omega)
          k_steps
          · rename Fr _ _ _ _ => F11
            rename News _ _ _ _ => N11
            rename _ < (256 : Int) => hterm
            refine str_letter (b := true) rfl (by rw [hfm]; exact hi0) (by rw [hfm]; omega) ?_
            have hkv : kvOf (2 + i) top c = ⟨true, ((256 + (14 + (c : Int)) - (14 + (top : Int))).fmod (2 + (i : Int))).toNat, c⟩ := by
              unfold kvOf
              rw [hfm, show decide (symN c top < 256) = true from decide_eq_true hterm]
            have hkok := kvOf_ok (size := 2 + i) (t := top) (c := c) (by omega) (by omega) hc16
            rw [hkv] at hkok
            k_steps
            rename Fr _ _ _ _ => F11
            rename News _ _ _ _ => N11
            have hlen8 : (dealt (2 + i) top (pc.take j)).1.length ≤ 8 := by
              have h1 := (dealt_len (2 + i) top (pc.take j)).1
              have h2 : pc.length ≤ 8 := by rw [← hpc]; unfold piece; rw [List.length_take]; omega
              have h3 := List.length_take_le j pc
              have h4 : (pc.take j).length ≤ pc.length := by rw [List.length_take]; omega
              omega
            refine setdef_led (k := ⟨true, _, c⟩) (dx := dx) (hl := hl) (t := tdx) (n := ndx) (items := items) (ep := ep1) (kvs := (dealt (2 + i) top (pc.take j)).1) (tps := tps) (tail := (I2, io2) :: (D, listOf grp.toArray 0) :: (el, listOf (List.toArray gvals) ep2) :: (tb, listOf (List.toArray tabs) ep) :: (fl, listOf fvs.toArray epf) :: (I, io) :: (tps ++ rest))
              hkok F11 (news_sub N11 fun p hp => by
                simp only [hdObjs, List.mem_cons, List.mem_append, List.not_mem_nil, or_false] at hp ⊢
                rcases hp with (hp | hp | hp) | hp | hp | hp | hp | hp | hp | hp | hp <;> simp [hp]) GB (hA.deeper _ |>.le (by omega)) hlen8 hprs (fun p hp => ⟨by simp [hp], htps p hp⟩) ?_ ?_
            · intro p hp
              simp only [List.mem_cons, List.mem_append] at hp
              rcases hp with rfl | rfl | rfl | rfl | rfl | rfl | hp | hp
              · exact (hoff (hl, _) (.tail _ (.tail _ (.tail _ (.head _))))).1.symm
              · exact (hoff (hl, _) (.tail _ (.tail _ (.tail _ (.head _))))).2.symm
              · exact Nat.ne_of_gt lE.2.2.1
              · exact Nat.ne_of_lt l7.1
              · exact Nat.ne_of_lt l7.2.1
              · exact Nat.ne_of_lt l7.2.2.1
              · exact ne_cls (N11 p (by simp [hp])).1 (N11 (hl, listOf (List.toArray items) ep1) (by simp)).1 (by rw [htps p hp]; simp [W.listOf])
              · exact Nat.ne_of_lt (allLt_mem l7.2.2.2 p hp)
            · intro v h12 tk12 items' ep1' tps' hv' hprs' htps' F12 N12
              have N13 : News B Lt h12 ((I2, io2) :: (D, listOf grp.toArray 0) :: (el, listOf (List.toArray gvals) ep2) :: (x, instObj 195 dx) :: (dx, dictOf [⟨PyData.keyHash w.params (Str.ofString "_headers"), .str (Str.ofString "_headers") tdx, .ref hl⟩] ndx) :: (hl, listOf (List.toArray items') ep1') :: (tb, listOf (List.toArray tabs) ep) :: (fl, listOf fvs.toArray epf) :: (I, io) :: (tps' ++ rest)) := news_sub N12 fun p hp => by
                simp only [hdObjs, List.mem_cons, List.mem_append, List.not_mem_nil, or_false] at hp ⊢
                rcases hp with hp | hp | hp | hp | hp | hp | hp | hp | hp | hp | hp <;> simp [hp]
              have h13 : ∀ p ∈ tps', p.1 ≠ I2 ∧ p.1 ≠ D := fun p hp => by
                rcases (htps' p hp).2 with h | h
                · exact hoff p (by simp [h])
                · exact ⟨fun q => (by rw [q, (N11 (I2, io2) (.head _)).1] at h; cases h), fun q => (by rw [q, (N11 (D, listOf grp.toArray 0) (.tail _ (.head _))).1] at h; cases h)⟩
              clear F11 N11 N12
              k_steps
              refine append_led (its := gvals) (n := ep2) (news := (I2, io2) :: (D, listOf grp.toArray 0) :: (x, instObj 195 dx) :: (dx, dictOf [⟨PyData.keyHash w.params (Str.ofString "_headers"), .str (Str.ofString "_headers") tdx, .ref hl⟩] ndx) :: (hl, listOf (List.toArray items') ep1') :: (tb, listOf (List.toArray tabs) ep) :: (fl, listOf fvs.toArray epf) :: (I, io) :: (tps' ++ rest)) F12 (news_sub N13 fun p hp => by
                simp only [List.mem_cons, List.mem_append] at hp ⊢
                rcases hp with hp | hp | hp | hp | hp | hp | hp | hp | hp | hp | hp <;> simp [hp]) ?_ ?_ (fun h14 F14 N14 => ?_)
              · intro p hp
                simp only [List.mem_cons, List.mem_append] at hp
                rcases hp with rfl | rfl | rfl | rfl | rfl | rfl | rfl | rfl | hp | hp
                · exact (hoff (el, _) (.head _)).1.symm
                · exact (hoff (el, _) (.head _)).2.symm
                · exact Nat.ne_of_lt lE.1
                · exact Nat.ne_of_lt lE.2.1
                · exact Nat.ne_of_lt lE.2.2.1
                · exact Nat.ne_of_lt lE.2.2.2.1
                · exact Nat.ne_of_lt lE.2.2.2.2.1
                · exact Nat.ne_of_lt lE.2.2.2.2.2.1
                · exact ne_cls (N13 p (by simp [hp])).1 (N13 (el, listOf (List.toArray gvals) ep2) (by simp)).1 (by rw [(htps' p hp).1]; simp [W.listOf])
                · exact Nat.ne_of_lt (allLt_mem lE.2.2.2.2.2.2 p hp)
              · have h1 := (dealt_len (2 + i) top (pc.take j)).2
                have h2 : pc.length ≤ 8 := by rw [← hpc]; unfold piece; rw [List.length_take]; omega
                have h4 : (pc.take j).length ≤ pc.length := by rw [List.length_take]; omega
                exact le8 (by rw [← hgv.length]; omega)
              · have hd : dealt (2 + i) top (pc.take (j + 1)) = ((lay (kvOf (2 + i) top c) (dealt (2 + i) top (pc.take j)).1).1, (dealt (2 + i) top (pc.take j)).2 ++ [(lay (kvOf (2 + i) top c) (dealt (2 + i) top (pc.take j)).1).2]) := by
                  rw [List.take_add_one, hcj]
                  exact dealt_snoc _ _ _ _
                rw [hkv] at hd
                clear N13 F12
                k_steps
                rename Fr _ _ _ _ => F15
                rename News _ _ _ _ => N15
                refine ⟨_, _, _, _, (el, listOf (List.toArray (gvals ++ [v])) (ep2 + 1)) :: (x, instObj 195 dx) :: (dx, dictOf [⟨PyData.keyHash w.params (Str.ofString "_headers"), .str (Str.ofString "_headers") tdx, .ref hl⟩] ndx) :: (hl, listOf (List.toArray items') ep1') :: (tb, listOf (List.toArray tabs) ep) :: (fl, listOf fvs.toArray epf) :: (I, io) :: (tps' ++ rest), rfl, F15, st_off rfl (st_off rfl (st_off rfl updL_offs)), news_sub N15 fun p hp => ?_, fun p hp => ?_, rfl, items', gvals ++ [v], ep1', ep2 + 1, tps', rfl, ?_, ?_, fun p hp => (htps' p hp).1⟩
                · simp only [List.mem_cons, List.mem_append] at hp ⊢
                  rcases hp with hp | hp | hp | hp | hp | hp | hp | hp | hp | hp | hp <;> simp [hp]
                · simp only [List.mem_cons, List.mem_append] at hp
                  rcases hp with rfl | rfl | rfl | rfl | rfl | rfl | rfl | hp | hp
                  · exact hoff (el, listOf (List.toArray gvals) ep2) (.head _)
                  · exact hoff _ (.tail _ (.head _))
                  · exact hoff _ (.tail _ (.tail _ (.head _)))
                  · exact hoff (hl, listOf (List.toArray items) ep1) (.tail _ (.tail _ (.tail _ (.head _))))
                  · exact hoff _ (.tail _ (.tail _ (.tail _ (.tail _ (.head _)))))
                  · exact hoff _ (.tail _ (.tail _ (.tail _ (.tail _ (.tail _ (.head _))))))
                  · exact hoff _ (.tail _ (.tail _ (.tail _ (.tail _ (.tail _ (.tail _ (.head _)))))))
                  · exact h13 p hp
                  · exact hoff p (by simp [hp])
                · rw [hd]; exact hprs'
                · rw [hd]; exact hgv.snoc hv'
          · rename Fr _ _ _ _ => F11
            rename News _ _ _ _ => N11
            rename ¬ _ < (256 : Int) => hterm
            refine str_letter (b := false) rfl (by rw [hfm]; exact hi0) (by rw [hfm]; omega) ?_
            have hkv : kvOf (2 + i) top c = ⟨false, ((256 + (14 + (c : Int)) - (14 + (top : Int))).fmod (2 + (i : Int))).toNat, c⟩ := by
              unfold kvOf
              rw [hfm, show decide (symN c top < 256) = false from decide_eq_false hterm]
            have hkok := kvOf_ok (size := 2 + i) (t := top) (c := c) (by omega) (by omega) hc16
            rw [hkv] at hkok
            k_steps
            rename Fr _ _ _ _ => F11
            rename News _ _ _ _ => N11
            have hlen8 : (dealt (2 + i) top (pc.take j)).1.length ≤ 8 := by
              have h1 := (dealt_len (2 + i) top (pc.take j)).1
              have h2 : pc.length ≤ 8 := by rw [← hpc]; unfold piece; rw [List.length_take]; omega
              have h3 := List.length_take_le j pc
              have h4 : (pc.take j).length ≤ pc.length := by rw [List.length_take]; omega
              omega
            refine setdef_led (k := ⟨false, _, c⟩) (dx := dx) (hl := hl) (t := tdx) (n := ndx) (items := items) (ep := ep1) (kvs := (dealt (2 + i) top (pc.take j)).1) (tps := tps) (tail := (I2, io2) :: (D, listOf grp.toArray 0) :: (el, listOf (List.toArray gvals) ep2) :: (tb, listOf (List.toArray tabs) ep) :: (fl, listOf fvs.toArray epf) :: (I, io) :: (tps ++ rest))
              hkok F11 (news_sub N11 fun p hp => by
                simp only [hdObjs, List.mem_cons, List.mem_append, List.not_mem_nil, or_false] at hp ⊢
                rcases hp with (hp | hp | hp) | hp | hp | hp | hp | hp | hp | hp | hp <;> simp [hp]) GB (hA.deeper _ |>.le (by omega)) hlen8 hprs (fun p hp => ⟨by simp [hp], htps p hp⟩) ?_ ?_
            · intro p hp
              simp only [List.mem_cons, List.mem_append] at hp
              rcases hp with rfl | rfl | rfl | rfl | rfl | rfl | hp | hp
              · exact (hoff (hl, _) (.tail _ (.tail _ (.tail _ (.head _))))).1.symm
              · exact (hoff (hl, _) (.tail _ (.tail _ (.tail _ (.head _))))).2.symm
              · exact Nat.ne_of_gt lE.2.2.1
              · exact Nat.ne_of_lt l7.1
              · exact Nat.ne_of_lt l7.2.1
              · exact Nat.ne_of_lt l7.2.2.1
              · exact ne_cls (N11 p (by simp [hp])).1 (N11 (hl, listOf (List.toArray items) ep1) (by simp)).1 (by rw [htps p hp]; simp [W.listOf])
              · exact Nat.ne_of_lt (allLt_mem l7.2.2.2 p hp)
            · intro v h12 tk12 items' ep1' tps' hv' hprs' htps' F12 N12
              have N13 : News B Lt h12 ((I2, io2) :: (D, listOf grp.toArray 0) :: (el, listOf (List.toArray gvals) ep2) :: (x, instObj 195 dx) :: (dx, dictOf [⟨PyData.keyHash w.params (Str.ofString "_headers"), .str (Str.ofString "_headers") tdx, .ref hl⟩] ndx) :: (hl, listOf (List.toArray items') ep1') :: (tb, listOf (List.toArray tabs) ep) :: (fl, listOf fvs.toArray epf) :: (I, io) :: (tps' ++ rest)) := news_sub N12 fun p hp => by
                simp only [hdObjs, List.mem_cons, List.mem_append, List.not_mem_nil, or_false] at hp ⊢
                rcases hp with hp | hp | hp | hp | hp | hp | hp | hp | hp | hp | hp <;> simp [hp]
              have h13 : ∀ p ∈ tps', p.1 ≠ I2 ∧ p.1 ≠ D := fun p hp => by
                rcases (htps' p hp).2 with h | h
                · exact hoff p (by simp [h])
                · exact ⟨fun q => (by rw [q, (N11 (I2, io2) (.head _)).1] at h; cases h), fun q => (by rw [q, (N11 (D, listOf grp.toArray 0) (.tail _ (.head _))).1] at h; cases h)⟩
              clear F11 N11 N12
              k_steps
              refine append_led (its := gvals) (n := ep2) (news := (I2, io2) :: (D, listOf grp.toArray 0) :: (x, instObj 195 dx) :: (dx, dictOf [⟨PyData.keyHash w.params (Str.ofString "_headers"), .str (Str.ofString "_headers") tdx, .ref hl⟩] ndx) :: (hl, listOf (List.toArray items') ep1') :: (tb, listOf (List.toArray tabs) ep) :: (fl, listOf fvs.toArray epf) :: (I, io) :: (tps' ++ rest)) F12 (news_sub N13 fun p hp => by
                simp only [List.mem_cons, List.mem_append] at hp ⊢
                rcases hp with hp | hp | hp | hp | hp | hp | hp | hp | hp | hp | hp <;> simp [hp]) ?_ ?_ (fun h14 F14 N14 => ?_)
              · intro p hp
                simp only [List.mem_cons, List.mem_append] at hp
                rcases hp with rfl | rfl | rfl | rfl | rfl | rfl | rfl | rfl | hp | hp
                · exact (hoff (el, _) (.head _)).1.symm
                · exact (hoff (el, _) (.head _)).2.symm
                · exact Nat.ne_of_lt lE.1
                · exact Nat.ne_of_lt lE.2.1
                · exact Nat.ne_of_lt lE.2.2.1
                · exact Nat.ne_of_lt lE.2.2.2.1
                · exact Nat.ne_of_lt lE.2.2.2.2.1
                · exact Nat.ne_of_lt lE.2.2.2.2.2.1
                · exact ne_cls (N13 p (by simp [hp])).1 (N13 (el, listOf (List.toArray gvals) ep2) (by simp)).1 (by rw [(htps' p hp).1]; simp [W.listOf])
                · exact Nat.ne_of_lt (allLt_mem lE.2.2.2.2.2.2 p hp)
              · have h1 := (dealt_len (2 + i) top (pc.take j)).2
                have h2 : pc.length ≤ 8 := by rw [← hpc]; unfold piece; rw [List.length_take]; omega
                have h4 : (pc.take j).length ≤ pc.length := by rw [List.length_take]; omega
                exact le8 (by rw [← hgv.length]; omega)
              · have hd : dealt (2 + i) top (pc.take (j + 1)) = ((lay (kvOf (2 + i) top c) (dealt (2 + i) top (pc.take j)).1).1, (dealt (2 + i) top (pc.take j)).2 ++ [(lay (kvOf (2 + i) top c) (dealt (2 + i) top (pc.take j)).1).2]) := by
                  rw [List.take_add_one, hcj]
                  exact dealt_snoc _ _ _ _
                rw [hkv] at hd
                clear N13 F12
                k_steps
                rename Fr _ _ _ _ => F15
                rename News _ _ _ _ => N15
                refine ⟨_, _, _, _, (el, listOf (List.toArray (gvals ++ [v])) (ep2 + 1)) :: (x, instObj 195 dx) :: (dx, dictOf [⟨PyData.keyHash w.params (Str.ofString "_headers"), .str (Str.ofString "_headers") tdx, .ref hl⟩] ndx) :: (hl, listOf (List.toArray items') ep1') :: (tb, listOf (List.toArray tabs) ep) :: (fl, listOf fvs.toArray epf) :: (I, io) :: (tps' ++ rest), rfl, F15, st_off rfl (st_off rfl (st_off rfl updL_offs)), news_sub N15 fun p hp => ?_, fun p hp => ?_, rfl, items', gvals ++ [v], ep1', ep2 + 1, tps', rfl, ?_, ?_, fun p hp => (htps' p hp).1⟩
                · simp only [List.mem_cons, List.mem_append] at hp ⊢
                  rcases hp with hp | hp | hp | hp | hp | hp | hp | hp | hp | hp | hp <;> simp [hp]
                · simp only [List.mem_cons, List.mem_append] at hp
                  rcases hp with rfl | rfl | rfl | rfl | rfl | rfl | rfl | hp | hp
                  · exact hoff (el, listOf (List.toArray gvals) ep2) (.head _)
                  · exact hoff _ (.tail _ (.head _))
                  · exact hoff _ (.tail _ (.tail _ (.head _)))
                  · exact hoff (hl, listOf (List.toArray items) ep1) (.tail _ (.tail _ (.tail _ (.head _))))
                  · exact hoff _ (.tail _ (.tail _ (.tail _ (.tail _ (.head _)))))
                  · exact hoff _ (.tail _ (.tail _ (.tail _ (.tail _ (.tail _ (.head _))))))
                  · exact hoff _ (.tail _ (.tail _ (.tail _ (.tail _ (.tail _ (.tail _ (.head _)))))))
                  · exact h13 p hp
                  · exact hoff p (by simp [hp])
                · rw [hd]; exact hprs'
                · rw [hd]; exact hgv.snoc hv'
        · clear F9 N9
          rintro f3 _ h15 tk15 _ ⟨rfl, items, gvals, ep1, ep2, tps, rfl, hprs, hgv, htps⟩ F10 N10
          have hpt' : pc.take grp.toArray.size = pc := List.take_of_length_le (by rw [List.size_toArray, hgrp.length]; exact Nat.le_refl _)
          rw [hpt'] at hprs hgv
          k_steps
          rename Fr _ _ _ _ => F11
          rename News _ _ _ _ => N11
          rename ∀ p ∈ (_ : List (Addr × Obj)), @LT.lt Nat _ p.1 _ => lG
          rename_i _ _ gl _
          have eg : List.take (((b0 : Int) + (2 + (i : Int))).toNat - (b0 : Int).toNat) (List.drop (b0 : Int).toNat fvs) = (fvs.drop b0).take (2 + i) := by
            have e1 : ((b0 : Int) + (2 + (i : Int))).toNat - (b0 : Int).toNat = 2 + i := by omega
            have e2 : (b0 : Int).toNat = b0 := by omega
            rw [e1, e2]
          rw [eg] at N11
          have hgrp2 : Paired SgV pc ((fvs.drop b0).take (2 + i)) := by rw [← hpc]; unfold piece; rw [← hb0]; exact Paired.take' _ (Paired.drop' _ hfv)
          generalize (fvs.drop b0).take (2 + i) = grp2 at N11 hgrp2
          have hpc8 : pc.length ≤ 8 := by rw [← hpc]; unfold piece; rw [List.length_take]; omega
          have hlen8 : (dealt (2 + i) top pc).1.length ≤ 8 := by
            have h1 := (dealt_len (2 + i) top pc).1
            omega
          refine values_led (dx := dx) (hl := hl) (t := tdx) (n := ndx) (items := items) (ep := ep1) (kvs := (dealt (2 + i) top pc).1) (tps := tps) (tail := (gl, listOf grp2.toArray 0) :: (el, listOf (List.toArray gvals) ep2) :: (tb, listOf (List.toArray tabs) ep) :: (fl, listOf fvs.toArray epf) :: (I, io) :: (tps ++ rest))
            F11 (news_sub N11 fun p hp => by
              simp only [hdObjs, List.mem_cons, List.mem_append, List.not_mem_nil, or_false] at hp ⊢
              rcases hp with (hp | hp | hp) | hp | hp | hp | hp | hp | hp | hp <;> simp [hp]) GB (hA.deeper _ |>.le (by omega)) hlen8 hprs (fun p hp => ⟨by simp [hp], htps p hp⟩) fun vl ys ep3 h16 tk16 hys F12 N12 hvl => ?_
          have N13 : News B Lt h16 ((vl, listOf (List.toArray ys) ep3) :: (gl, listOf grp2.toArray 0) :: (el, listOf (List.toArray gvals) ep2) :: (tb, listOf (List.toArray tabs) ep) :: (fl, listOf fvs.toArray epf) :: (I, io) :: rest) := news_sub N12 fun p hp => by
            simp only [hdObjs, List.mem_cons, List.mem_append, List.not_mem_nil, or_false] at hp ⊢
            rcases hp with hp | hp | hp | hp | hp | hp | hp <;> simp [hp]
          clear F11 N11 N12
          k_steps
          rename Fr _ _ _ _ => F14
          rename News _ _ _ _ => N14
          rename _ ∧ _ => lT
          rename_i Tt h17
          have hk4 : k * 2 ≤ 8 := Nat.le_trans (Nat.mul_le_mul_left k (show 2 ≤ 2 + i by omega)) (by omega)
          have htl : tabs.length ≤ sizeLine := by
            have h1 := hpt.length
            have h2 := tabsUpTo_len h8 i
            have h3 : (tabsFor cs (2 + i) k).length = k := by simp [tabsFor]
            rw [List.length_append] at h1
            have : tabs.length ≤ 40 := by omega
            exact Nat.le_trans this (by decide)
          refine append_led (its := tabs) (n := ep) (news := (Tt, { cls := .type "tuple", data := .seq #[.int (2 + (i : Int)) t, .ref gl, .ref el, .ref vl] }) :: (vl, listOf (List.toArray ys) ep3) :: (gl, listOf grp2.toArray 0) :: (el, listOf (List.toArray gvals) ep2) :: (fl, listOf fvs.toArray epf) :: (I, io) :: rest) F14 (news_sub N14 fun p hp => by
              simp only [List.mem_cons] at hp ⊢
              rcases hp with hp | hp | hp | hp | hp | hp | hp | hp <;> simp [hp]) ?_ htl fun h18 F15 N15 => ?_
          · intro p hp
            simp only [List.mem_cons] at hp
            rcases hp with rfl | rfl | rfl | rfl | rfl | rfl | hp
            · exact Nat.ne_of_gt lT.2.2.2.1
            · exact (hvl (tb, listOf (List.toArray tabs) ep) (by simp)).symm
            · exact Nat.ne_of_gt (lG (tb, listOf (List.toArray tabs) ep) (by simp))
            · exact Nat.ne_of_gt lE.2.2.2.1
            · exact Nat.ne_of_lt l1
            · exact ne_cls (N14 (I, io) (by simp)).1 (N14 (tb, listOf (List.toArray tabs) ep) (by simp)).1 (by rw [hio]; simp [W.listOf])
            · exact hrtb p hp
          · clear F14 N14
            k_steps
            rename Fr _ _ _ _ => F16
            rename News _ _ _ _ => N16
            obtain ⟨oLg, hoLg⟩ := hLgin
            have hLgr : (Lg, oLg) ∈ rest := by rw [hrest]; exact List.mem_append_left _ hoLg
            refine ⟨_, _, _, (tb, listOf (List.toArray (tabs ++ [.ref Tt])) (ep + 1)) :: (fl, listOf fvs.toArray epf) :: (I, io) :: ((Tt, { cls := .type "tuple", data := .seq #[.int (2 + (i : Int)) t, .ref gl, .ref el, .ref vl] }) :: (vl, listOf (List.toArray ys) ep3) :: (gl, listOf grp2.toArray 0) :: (el, listOf (List.toArray gvals) ep2) :: done), rfl, F16,
              st_off rfl (upd_off rfl (st_off rfl (st_off rfl (st_off rfl (st_off rfl updL_offs))))), news_sub N16 fun p hp => ?_, ?_⟩
            · rw [hrest]
              simp only [List.mem_cons, List.mem_append] at hp ⊢
              rcases hp with hp | hp | hp | hp | hp | hp | hp | hp | hp | hp <;> simp [hp]
            · refine ⟨⟨_, int_tok (by rw [Nat.add_mul, Nat.one_mul, ← hb0]; push_cast; rfl)⟩, by rw [Nat.add_mul, Nat.one_mul, ← hb0]; omega, tabs ++ [.ref Tt], ep + 1, _, rfl, ?_, ?_⟩
              · rw [tabsFor_succ, ← List.append_assoc, hhd, hpc]
                refine Paired.snoc (hpt.mono fun r v hr h hh => hr h fun p hp => hh p (.tail _ (.tail _ (.tail _ (.tail _ hp))))) fun h hh => ?_
                refine ⟨Tt, t, gl, el, vl, rfl, ?_, ⟨_, _, hh _ (.tail _ (.tail _ (.head _))), hgrp2⟩, ⟨_, _, hh _ (.tail _ (.tail _ (.tail _ (.head _)))), hgv⟩, ⟨_, _, hh _ (.tail _ (.head _)), hys⟩⟩
                have e2 : (((tabOf (2 + i) top pc).size : Nat) : Int) = 2 + (i : Int) := by show ((2 + i : Nat) : Int) = _; push_cast; rfl
                rw [e2]
                exact ⟨_, hh _ (.head _), rfl, _, rfl⟩
              · intro p hp
                simp only [List.mem_cons] at hp
                rcases hp with rfl | rfl | rfl | rfl | hp
                · exact ⟨Nat.ne_of_gt lT.2.2.2.1, Nat.ne_of_gt (allLt_mem lT.2.2.2.2.2.2 _ hLgr), by simp, fun q => absurd q.1 (by simp)⟩
                · exact ⟨(hvl (tb, listOf (List.toArray tabs) ep) (by simp)).symm, (hvl (Lg, oLg) (by simp [hLgr])).symm, by simp [W.listOf], fun q => absurd q.1 (by simp [W.listOf])⟩
                · exact ⟨Nat.ne_of_gt (lG (tb, listOf (List.toArray tabs) ep) (by simp)), Nat.ne_of_gt (lG (Lg, oLg) (by simp [hLgr])), by simp [W.listOf], fun q => absurd q.1 (by simp [W.listOf])⟩
                · exact ⟨Nat.ne_of_gt lE.2.2.2.1, Nat.ne_of_gt (allLt_mem lE.2.2.2.2.2.2 _ hLgr), by simp [W.listOf], fun q => absurd q.1 (by simp [W.listOf])⟩
                · exact hdone p hp
  · clear F1 N1
    obtain ⟨⟨tabs, ep, done, rfl, hpt, hdone⟩, hbare⟩ := hJ
    k_steps
    rename Fr _ _ _ _ => F3
    rename News _ _ _ _ => N3
    refine ret tb ep tabs _ _ _ (hpt.mono fun r v hr => hr _ fun p hp => (N3 p (by simp [hp])).1) (fun b o e => ?_) (N3 _ (.head _)).1 ?_ hbare
    · by_cases q : b = fl
      · rw [q] at e ⊢
        rw [hn] at e; cases e
        exact (N3 _ (.tail _ (.head _))).1
      · refine F3.keep b o ?_
        rw [← hBB]
        exact hideAll_get _ e (by simpa using q)
    · cases e : s.heap.get? tb with
      | none => rfl
      | some o =>
        have h1 := hideAll_get [fl] e (by simpa using Nat.ne_of_gt l1)
        have h2 := (N3 _ (.head _)).2.2
        rw [← hBB] at h2
        rw [h2] at h1; cases h1
end
end Mine
end
section
open PySem PySem.W PySem.Calls PyProof.Rows
set_option maxRecDepth 100000
namespace Mine
def NatV (n : Nat) (v : Value) : Prop := ∃ t, v = .int (n : Int) t
def IntV (n : Int) (v : Value) : Prop := ∃ t, v = .int n t
def BoolV (b : Bool) (v : Value) : Prop := v = .bool b
def EqV {α : Type} [DecidableEq α] (R : α → Value → Prop) : Prop := ∀ A s a b v w, R a v → R b w → SeqAt.EqAt A s v w (decide (a = b))
theorem eqv_nat : EqV NatV := fun A s a b v w ⟨t, hv⟩ ⟨u, hw⟩ => by
  subst hv; subst hw
  have h := SeqAt.EqAt.int_int (A := A) (s := s) (a : Int) t (b : Int) u
  have e : ((a : Int) == (b : Int)) = decide (a = b) := by
    rw [Bool.eq_iff_iff, beq_iff_eq, decide_eq_true_iff]; omega
  rw [e] at h; exact h
theorem eqv_int : EqV IntV := fun A s a b v w ⟨t, hv⟩ ⟨u, hw⟩ => by
  subst hv; subst hw
  have h := SeqAt.EqAt.int_int (A := A) (s := s) a t b u
  have e : (a == b) = decide (a = b) := by
    rw [Bool.eq_iff_iff]; simp
  rw [e] at h; exact h
theorem eqv_bool : EqV BoolV := fun A s a b v w hv hw => by
  subst hv; subst hw
  have h := SeqAt.EqAt.bool_bool (A := A) (s := s) a b
  have e : (a == b) = decide (a = b) := by
    rw [Bool.eq_iff_iff]; simp
  rw [e] at h; exact h
theorem eqv_sg : ∀ A s a b v w, a < 16 → b < 16 → SgV a v → SgV b w → SeqAt.EqAt A s v w (decide (a = b)) := fun A s a b v w ha hb ⟨t, hv⟩ ⟨u, hw⟩ => by
  subst hv; subst hw
  have h := SeqAt.EqAt.str_str (A := A) (s := s) (sg a) t (sg b) u
  have e : (sg a == sg b) = decide (a = b) := by
    rw [Bool.eq_iff_iff]; simp [sg_inj a b ha hb]
  rw [e] at h; exact h
theorem paired_get {α β : Type} {F : α → β → Prop} : ∀ {l₁ : List α} {l₂ : List β}, Paired F l₁ l₂ → ∀ n (h1 : n < l₁.length) (h2 : n < l₂.length), F l₁[n] l₂[n]
  | _, _, .cons h _, 0, _, _ => h
  | _, _, .cons _ h, n + 1, h1, h2 => paired_get h n (by simpa using h1) (by simpa using h2)
section
variable {prog : Program} {w : World} {A : Around} {E : Value → Shared → Prop} {s : Shared}
theorem eq_all {α : Type} [DecidableEq α] {xs ys : List α} (h : xs.length = ys.length) : ((List.range xs.length).all fun j => decide (xs[j]? = ys[j]?)) = decide (xs = ys) := by
  rw [Bool.eq_iff_iff, List.all_eq_true, decide_eq_true_iff]
  constructor
  · intro hh
    apply List.ext_getElem?
    intro j
    by_cases hj : j < xs.length
    · exact of_decide_eq_true (hh j (List.mem_range.mpr hj))
    · rw [List.getElem?_eq_none (by omega), List.getElem?_eq_none (by omega)]
  · rintro rfl j _; simp
theorem eq_lists {α : Type} [DecidableEq α] {R : α → Value → Prop} {xs ys : List α} {vs ws : List Value} {l b : Addr} {Q : Value → Shared → Prop} (hx : Paired R xs vs) (hy : Paired R ys ws)
    (he : ∀ A' a b v w, a ∈ xs → b ∈ ys → R a v → R b w → SeqAt.EqAt A' s v w (decide (a = b)))
    (hl : s.heap.IsList l vs.toArray) (hb : s.heap.IsList b ws.toArray) (hu : A.units < cLine) (h : Q (.bool (decide (xs = ys))) s) : wpAny (model prog w) A (compareOp .Eq (.ref l) (.ref b)) Q E s := by
  by_cases hs : xs.length = ys.length
  · have h1 := hx.length
    have h2 := hy.length
    refine SeqAt.eq_listAt (e := fun j => decide (xs[j]? = ys[j]?)) hl hb (by simp; omega) hu (fun j h3 h4 => ?_) ?_
    · have h5 : j < xs.length := by simp at h3; omega
      have h6 : j < ys.length := by omega
      rw [List.getElem?_eq_getElem h5, List.getElem?_eq_getElem h6]
      have := he A.in1 xs[j] ys[j] vs[j] ws[j] (List.getElem_mem _) (List.getElem_mem _) (paired_get hx j h5 (by omega)) (paired_get hy j h6 (by omega))
      simpa using this
    · rw [show (vs.toArray.size) = xs.length by simp; omega, eq_all hs]
      exact h
  · have h1 := hx.length
    have h2 := hy.length
    refine SeqAt.eq_list_lengthsAt hl hb (by simp; omega) hu ?_
    rw [show decide (xs = ys) = false from decide_eq_false fun e => hs (by rw [e])] at h
    exact h
theorem ne_lists {α : Type} [DecidableEq α] {R : α → Value → Prop} {xs ys : List α} {vs ws : List Value} {l b : Addr} {Q : Value → Shared → Prop} (hx : Paired R xs vs) (hy : Paired R ys ws)
    (he : ∀ A' a b v w, a ∈ xs → b ∈ ys → R a v → R b w → SeqAt.EqAt A' s v w (decide (a = b)))
    (hl : s.heap.IsList l vs.toArray) (hb : s.heap.IsList b ws.toArray) (hu : A.units < cLine) (h : Q (.bool (!decide (xs = ys))) s) : wpAny (model prog w) A (compareOp .NotEq (.ref l) (.ref b)) Q E s := by
  refine cmp_ofNotEq ?_
  by_cases hs : xs.length = ys.length
  · have h1 := hx.length
    have h2 := hy.length
    refine SeqAt.RcNeAt.lists (e := fun j => decide (xs[j]? = ys[j]?)) hl hb (by simp; omega) hu (fun j h3 h4 => ?_) prog w E Q ?_
    · have h5 : j < xs.length := by simp at h3; omega
      have h6 : j < ys.length := by omega
      rw [List.getElem?_eq_getElem h5, List.getElem?_eq_getElem h6]
      have := he A.in1 xs[j] ys[j] vs[j] ws[j] (List.getElem_mem _) (List.getElem_mem _) (paired_get hx j h5 (by omega)) (paired_get hy j h6 (by omega))
      simpa using this
    · rw [show (vs.toArray.size) = xs.length by simp; omega, eq_all hs]
      exact h
  · have h1 := hx.length
    have h2 := hy.length
    refine SeqAt.RcNeAt.lists_lengths hl hb (by simp; omega) hu prog w E Q ?_
    rw [show decide (xs = ys) = false from decide_eq_false fun e => hs (by rw [e])] at h
    exact h
theorem bools_of : ∀ {xs : List Bool} {vs : List Value}, Paired BoolV xs vs → vs = xs.map .bool
  | _, _, .nil => rfl
  | _, _, .cons h r => by rw [show _ = _ from h, bools_of r]; rfl
theorem notIn_bools {xs : List Bool} {vs : List Value} {l : Addr} {Q : Value → Shared → Prop} (hx : Paired BoolV xs vs) (hl : s.heap.IsList l vs.toArray) (h : Q (.bool (!xs.contains false)) s) : wpAny (model prog w) A (compareOp .NotIn (.bool false) (.ref l)) Q E s := by
  have e := bools_of hx
  subst e
  refine SeqAt.notIn_listAt (fun v => match v with | .bool b => b == false | _ => false) hl (fun y hy => ?_) ?_
  · simp only [List.mem_toArray, List.mem_map] at hy
    obtain ⟨b, -, rfl⟩ := hy
    exact SeqAt.EqAt.bool_bool b false
  · have : ((xs.map Value.bool).toArray.any fun v => match v with | .bool b => b == false | _ => false) = xs.contains false := by
      rw [List.any_toArray, List.any_map, List.contains_eq_any_beq]
      congr 1
      funext b
      cases b <;> rfl
    rw [this]
    exact h
end
end Mine
end
section
open PySem PySem.W PySem.Calls PyProof.Rows
set_option maxRecDepth 100000
namespace Mine
section
variable {prog : Program} {w : World} {A : Around} {E : Value → Shared → Prop} {s : Shared}
theorem enter_cell {R : Result → Shared → Prop} {name qual : Str} {params : Arguments} {body : List Stmt} {scope : Scope} {dV kV doc pm cdv ct oc : Value} {an od : Option Addr} {osl : Array (Option Value)} {f : Addr} {args : Args} {binds : List (Str × Value)}
    {news : List (Addr × Obj)} (hn : ∀ p ∈ news, s.heap.get? p.1 = some p.2) (G : Gl w (hideAll s.heap (news.map (·.1)))) (hA : Room A 1)
    (ho : (Mine.mk.heap_1 w.params).lookup f = some ⟨oc, od, .func (fnOf name qual params body scope dV kV doc pm an cdv ct), osl⟩) (hcd : codeIn (Mine.mk.heap_1 w.params) cdv qual = true)
    (hbind : BindsTo s (fnOf name qual params body scope dV kV doc pm an cdv ct) args binds) (hkind : (binds.all fun y => scope.names.lookup y.1 == some .local || scope.names.lookup y.1 == some .cell) = true)
    (hnd : ((cellsFrom 0 scope.names []).map (·.1)).Nodup)
    (h : ∀ h₁ tk cells, Fr (hideAll s.heap (news.map (·.1))) s.heap.objs.size h₁ (bindL (envOfC qual scope s.heap.objs.size f cdv).kindOf binds fun _ => none) → News (hideAll s.heap (news.map (·.1))) s.heap.objs.size h₁ (cells ++ news) →
      CellsAre (bindC (envOfC qual scope s.heap.objs.size f cdv).kindOf binds fun _ => none) (cellsFrom (s.heap.objs.size + 1) scope.names []) cells →
      wpAny (model prog w) (A.deeper (envOfC qual scope s.heap.objs.size f cdv)) (execs body (envOfC qual scope s.heap.objs.size f cdv))
        (fun fl s' => R (.ok (.ret (match fl with | .ret v => v | _ => .none))) s') (fun _ _ => False) { s with heap := h₁, toks := tk })
    (hco : scope.isCoroutine = false := by rfl) (hgen : scope.isGenerator = false := by rfl) (hk : scope.kind = .function := by rfl) : codeAny (model prog w) A (.call (.ref f) args) R s := by
  have G' : Gl w s.heap := G.keeps fun b o e => (hide_in e).1
  refine codeAny_call_function (by have := hA.dp; omega) (G'.k _ _ ho) rfl hco hgen rfl (codeRec_of G'.k hcd) (hbind _ _ _ _ ?_)
  refine wpAny_newFunctionEnv_cells hk (kindsX hkind _) fun env' he s' x => ?_
  subst he
  refine ⟨G'.lim.keeps x.toInCall.keep, codeAny_func ?_⟩
  obtain ⟨h₁, tk, rfl, _⟩ := x.done
  have hk₁ := x.toInCall.keep
  obtain ⟨cells, NC, Y⟩ := Cl.news (h₀ := s.heap) (Nat.le_refl _) fun n c hm => ⟨x.cell n c (lookup_of_mem_nodup (cellsFrom_names scope.names 0 (s.heap.objs.size + 1) [] [] rfl ▸ hnd) hm), x.above n c hm⟩
  refine wpAny_mono (h h₁ tk cells ⟨x.toInCall.ns, fun b o e => hk₁ b o (of_hideAll _ e), Nat.le_of_eq (hideAll_size _ _)⟩ (fun p hp => ?_) Y) (fun fl s' hl => hl) fun _ _ y => y.elim
  rcases List.mem_append.mp hp with hp | hp
  · refine ⟨(NC p hp).1, (NC p hp).2.1, ?_⟩
    cases q : (hideAll s.heap (news.map (·.1))).get? p.1 with
    | none => rfl
    | some o => have := of_hideAll _ q; rw [(NC p hp).2.2] at this; cases this
  · exact ⟨hk₁ _ _ (hn p hp), Nat.ne_of_lt (Heap.lt_size (hn p hp)), hideAll_none _ (List.mem_map_of_mem hp)⟩
end
theorem turn_perm {left row rng : List Nat} {c : Nat} (h : (left ++ row).Perm rng) (hc : c ∈ left) : (left.erase c ++ (row ++ [c])).Perm rng := by
  refine List.Perm.trans ?_ h
  rw [← List.append_assoc]
  refine (List.perm_append_singleton c _).trans ?_
  exact (List.perm_cons_erase hc).symm.append_right row
theorem less_ne {left row : List Nat} {n r0 : Nat} (h : (left ++ row).Perm (List.range n)) (hr : row[0]? = some r0) (hl : 0 < left.length) (hm : left.filter (fun c => decide (r0 < c)) = []) : left.filter (fun c => decide (c < r0)) ≠ [] := by
  intro hls
  have hnd : (left ++ row).Nodup := h.nodup_iff.mpr List.nodup_range
  have hx : left[0] ∈ left := List.getElem_mem hl
  have hr0 : r0 ∈ row := List.mem_of_getElem? hr
  have hne : left[0] ≠ r0 := (List.nodup_append.mp hnd).2.2 _ hx _ hr0
  have h1 : ¬ r0 < left[0] := by
    have := List.filter_eq_nil_iff.mp hm _ hx
    simpa using this
  have h2 : ¬ left[0] < r0 := by
    have := List.filter_eq_nil_iff.mp hls _ hx
    simpa using this
  omega
theorem perm_pop (l : List Nat) (k : Nat) (h : k < l.length) : (l.eraseIdx k ++ [l[k]]).Perm l := by
  rw [List.eraseIdx_eq_take_drop_succ, List.append_assoc]
  have e : l = l.take k ++ l[k] :: l.drop (k + 1) := by rw [List.getElem_cons_drop, List.take_append_drop]
  exact ((List.perm_append_singleton _ _).append_left (l.take k)).trans (List.Perm.of_eq e.symm)
theorem le16 {n : Nat} (h : n ≤ 16) : n ≤ sizeLine := Nat.le_trans h (Nat.le_of_ble_eq_true rfl)
theorem Paired.eraseIdx' {α β : Type} {F : α → β → Prop} : ∀ {l₁ : List α} {l₂ : List β} (n : Nat), Paired F l₁ l₂ → Paired F (l₁.eraseIdx n) (l₂.eraseIdx n)
  | _, _, 0, .nil => .nil
  | _, _, _ + 1, .nil => .nil
  | _, _, 0, .cons _ h => h
  | _, _, n + 1, .cons a h => .cons a (Paired.eraseIdx' n h)
section
variable {prog : Program} {w : World} {A : Around} {E : Value → Shared → Prop} {s : Shared} {h₀ : Heap} {L : Addr} {m : Str → Option Value} {news : List (Addr × Obj)}
theorem pop_led {l : Addr} {vs : List Value} {ep : Nat} {i : Int} {u : Tok} {k : Nat} {y : Value} {Q : Value → Shared → Prop} (F : Fr h₀ L s.heap m) (N : News h₀ L s.heap ((l, listOf vs.toArray ep) :: news)) (hne : ∀ p ∈ news, p.1 ≠ l) (hi : i = (k : Int)) (hy : vs[k]? = some y) (h8 : vs.length ≤ 16)
    (h : ∀ h', Fr h₀ L h' m → News h₀ L h' ((l, listOf (vs.eraseIdx k).toArray (ep + 1)) :: news) → Q y { s with heap := h' }) : wpAny (model prog w) A (call (.builtin "list.pop") [.ref l, .int i u]) Q E s := by
  have z := N _ (.head _)
  have hk : k < vs.length := (List.getElem?_eq_some_iff.mp hy).1
  have hz' : vs.toArray.size ≤ sizeLine := by rw [List.size_toArray]; exact le16 h8
  have hf : Builtin.List.listFitsIndex i = true := by
    unfold Builtin.List.listFitsIndex
    simp
    omega
  have hs : seqIndex? i vs.toArray.size = some k := by
    subst hi
    unfold seqIndex?
    simp
    omega
  have hy' : vs.toArray[k]? = some y := by simpa using hy
  have hM := PySem.MeetsSeq.list_pop_at l vs.toArray ep i u k y hf hs hy' hz'
  refine call_meets PySem.F.slot_list_pop ⟨_, z.1, rfl⟩ PySem.F.entry_list_pop (PySem.F.args_list_pop_2 _ _) hM ⟨z.1, h _ (F.change (Heap.SameBut.update ..) z.2.1 z.2.2) (kl_turn (pre := []) _ N (fun p hp => by cases hp) hne ?_ ?_)⟩
  · show vs.toArray.eraseIdxIfInBounds k = (vs.eraseIdx k).toArray
    apply Array.toList_inj.mp
    simp [Array.toList_eraseIdxIfInBounds]
  · rw [List.size_toArray, List.size_toArray, List.length_eraseIdx_of_lt hk]
    omega
def isN (c : Nat) : Value → Bool
  | .int a _ => a == (c : Int)
  | _ => false
theorem remove_led {l : Addr} {xs : List Nat} {vs : List Value} {ep c : Nat} {t : Tok} {Q : Value → Shared → Prop} (hx : Paired NatV xs vs) (hc : c ∈ xs) (F : Fr h₀ L s.heap m) (N : News h₀ L s.heap ((l, listOf vs.toArray ep) :: news)) (hne : ∀ p ∈ news, p.1 ≠ l) (h8 : vs.length ≤ 16)
    (h : ∀ h' vs', Paired NatV (xs.erase c) vs' → Fr h₀ L h' m → News h₀ L h' ((l, listOf (List.toArray vs') (ep + 1)) :: news) → Q .none { s with heap := h' }) : wpAny (model prog w) A (call (.builtin "list.remove") [.ref l, .int (c : Int) t]) Q E s := by
  have z := N _ (.head _)
  have hz' : vs.toArray.size ≤ sizeLine := by rw [List.size_toArray]; exact le16 h8
  have hj : xs.idxOf c < xs.length := List.idxOf_lt_length_of_mem hc
  have hjv : xs.idxOf c < vs.length := by rw [← hx.length]; exact hj
  have gets : ∀ i (h1 : i < xs.length) (h2 : i < vs.length), isN c vs[i] = decide (xs[i] = c) := fun i h1 h2 => by
    obtain ⟨t, ht⟩ := paired_get hx i h1 h2
    rw [ht]
    show (((xs[i] : Nat) : Int) == (c : Int)) = _
    rw [Bool.eq_iff_iff, beq_iff_eq, decide_eq_true_iff]; omega
  refine call_meets PySem.F.slot_list_remove ⟨_, z.1, rfl⟩ PySem.F.entry_list_remove (PySem.F.args_list_remove_2 _ _)
    (PySem.MeetsSeq.list_remove l vs.toArray ep (.int (c : Int) t) (isN c) (fun y hy => ?_) (xs.idxOf c) (by simpa using hjv) ?_ (fun i hi hlt => ?_) hz')
    ⟨z.1, h _ (vs.eraseIdx (xs.idxOf c)) ?_ (F.change (Heap.SameBut.update ..) z.2.1 z.2.2) (kl_turn (pre := []) _ N (fun p hp => by cases hp) hne ?_ ?_)⟩
  · obtain ⟨i, hi, rfl⟩ := List.getElem_of_mem (List.mem_toArray.mp hy)
    obtain ⟨u, hu⟩ := paired_get hx i (by rw [hx.length]; exact hi) hi
    rw [hu]
    exact MeetsSeq.EqGives.int _ _ _ _
  · have := gets (xs.idxOf c) hj hjv
    simpa using this
  · have h1 : i < xs.length := by omega
    have := gets i h1 (by simpa using hi)
    rw [decide_eq_false (by
      intro e
      exact absurd (List.not_of_lt_findIdx hlt) (by simp [e]))] at this
    simpa using this
  · have := Paired.eraseIdx' (xs.idxOf c) hx
    rw [← List.erase_eq_eraseIdx_of_idxOf rfl] at this
    exact this
  · show vs.toArray.eraseIdxIfInBounds _ = (vs.eraseIdx _).toArray
    apply Array.toList_inj.mp
    simp [Array.toList_eraseIdxIfInBounds]
  · rw [List.size_toArray, List.size_toArray, List.length_eraseIdx_of_lt hjv]
    omega
theorem list_last {value slice : PySem.Expr} {l : Addr} {vs : List Value} {n k : Nat} {u : Tok} {x : Value} {Q : Value → Shared → Prop} (N : News h₀ L s.heap news) (hm : (l, listOf vs.toArray n) ∈ news) (hk : vs.length = k + 1) (h8 : vs.length ≤ 16) (hx : vs[k]? = some x) (h : Q x s)
    (hs : subscripted slice false (.ref l) (.int (-1) u) = operate [.ref l, .int (-1) u] (getItem (.ref l) (.int (-1) u)) := by with_unfolding_all rfl) :
    wpAny (model prog w) A (subscriptTail value slice (.ref l) (.int (-1) u)) Q E s := by
  have hl := PySem.IsL.isList (n := n) (N _ hm).1
  exact tail_any hl.typeIs slot_list_getitem.lookup (wpAny_getItem_list_neg hl (by omega) (by simp; omega) (by omega) (by
    have : ((-1 : Int) + (vs.toArray.size : Nat)).toNat = k := by simp; omega
    rw [this]; simpa using hx) h) hs
end
end Mine
end
section
open PySem PySem.W PySem.Calls PyProof.Rows
set_option maxRecDepth 100000
namespace Mine
theorem rng0_ok {n : Nat} (h8 : n ≤ 8) : Builtin.Range.small 0 (n : Int) 1 = true ∧ Builtin.Range.rangeSize 0 (n : Int) 1 = (n : Int) := by
  have : n = 0 ∨ n = 1 ∨ n = 2 ∨ n = 3 ∨ n = 4 ∨ n = 5 ∨ n = 6 ∨ n = 7 ∨ n = 8 := by omega
  rcases this with e | e | e | e | e | e | e | e | e <;> subst e <;> decide
section
variable {prog : Program} {w : World} {A : Around} {E : Value → Shared → Prop} {s : Shared}
local macro_rules | `(tactic| walk_at "exec For") => `(tactic| (k_here; refine Halt.mk ?_))
local macro_rules | `(tactic| walk_at "last exec For") => `(tactic| (k_here; refine Halt.mk ?_))
local macro_rules | `(tactic| walk_at "compareOp Eq ref ref") => `(tactic| (k_here; refine Halt.mk ?_))
local macro_rules | `(tactic| walk_at "compareOp NotEq ref ref") => `(tactic| (k_here; refine Halt.mk ?_))
local macro_rules | `(tactic| walk_at "eval ListComp") => `(tactic| (k_here; refine Halt.mk ?_))
local macro_rules | `(tactic| walk_at "exec Assign cons ListComp") => `(tactic| (k_here; refine Halt.mk ?_))
local macro_rules | `(tactic| walk_at "call builtin:len") => `(tactic| (k_here; (refine len_faces (by assumption) (by k_mem) (by assumption) (by assumption) ?_); (try dsimp only)))
local macro_rules | `(tactic| walk_at "call ref") => `(tactic| (k_here; refine Halt.mk ?_))
local macro_rules | `(tactic| walk_at "call builtin:list.append") => `(tactic| (k_here; refine Halt.mk ?_))
local macro_rules | `(tactic| walk_at "call builtin:list.pop") => `(tactic| (k_here; refine Halt.mk ?_))
local macro_rules | `(tactic| walk_at "call builtin:list.remove") => `(tactic| (k_here; refine Halt.mk ?_))
local macro_rules | `(tactic| walk_at "subscriptTail") => `(tactic| (k_here; first
  | ((with_reducible show wpAny _ _ (subscriptTail _ _ (Value.ref _) (Value.int _ _)) _ _ _); (refine list_item (k := 0) (by assumption) (by k_mem) (by rfl) (by omega) (by assumption) ?_))
  | refine Halt.mk ?_))
local macro_rules | `(tactic| walk_at "subscriptTail Name Slice ref ref") => `(tactic| (k_here; refine Halt.mk ?_))
local macro_rules | `(tactic| walk_at "eval Name") => `(tactic| (k_here; (with_reducible show wpAny _ _ (eval (Expr.Name _ _) (compEnvC _ _ _ _)) _ _ _); first
  | (refine' cn_L ?zF ?zv ?_ ?za ?zb; (case zF => k_asm); (case za => rfl); (case zb => rfl); (case zv => rfl); k_whole)
  | (refine' cn_K ?zF ?zX ?zT ?ze ?_ ?za ?zb; (case zF => k_asm); (case zX => k_asm); (case zT => k_asm); (case za => rfl); (case zb => rfl); (case ze => k_is); k_whole)
  | (refine' cn_B ?zF ?zX ?zT ?ze ?zv ?zn ?_ ?za ?zb; (case zF => k_asm); (case zX => k_asm); (case zT => k_asm); (case za => rfl); (case zb => rfl); (case ze => k_is); (case zv => boot_fast); (case zn => decide); k_whole)
  | (refine' cn_C ?zN ?zc ?zm ?zd ?_ ?za ?zb; (case za => rfl); (case zb => rfl); (case zN => k_asm); (case zc => rfl); (case zm => k_mem); (case zd => k_asm); k_whole)))
local macro_rules | `(tactic| walk_at "storeName") => `(tactic| (k_here; (with_reducible show wpAny _ _ (storeName (compEnvC _ _ _ _) _ _) _ _ _); (refine' cn_store ?zF ?zN ?_ ?za ?zb; (case zF => k_asm); (case zN => k_asm); (case za => rfl); (case zb => rfl); k_whole; intro h' F' N'; (try k_sweep))))
set_option maxHeartbeats 4000000 in
theorem row_spec {Q : Value → Shared → Prop} {cl : Addr} {epc : Nat} {zs : List Int} {zvs : List Value} {n : Nat} {tn : Tok} (hz : Paired IntV zs zvs) (hlen : zs.length = 9) (h5 : 5 ≤ n) (h8 : n ≤ 8)
    (hn : s.heap.get? cl = some (listOf zvs.toArray epc)) (G : Gl w (hideAll s.heap [cl])) (hA : Room A 4)
    (ret : ∀ D row rvs ep h' tk', row.Perm (List.range n) → Paired NatV row rvs → (∀ b o, s.heap.get? b = some o → h'.get? b = some o) → h'.get? D = some (listOf (List.toArray rvs) ep) → s.heap.get? D = none → Q (.ref D) { s with heap := h', toks := tk' }) :
    wpAny (model prog w) A (call (.ref 204) [.ref cl, .int (n : Int) tn]) Q E s := by
  refine wpAny_call (enter_cell (binds := [("cells", .ref cl), ("count", .int (n : Int) tn)]) (news := [(cl, listOf zvs.toArray epc)]) (by intro p hp; rw [List.mem_singleton.mp hp]; exact hn) G (hA.le (by omega)) (by rfl) (by rfl) (.of_eq rfl) (by rfl) (by decide +kernel) fun h₁ tk0 cells F N Y => ?_)
  simp only [List.map_cons, List.map_nil] at F N Y
  k_cells Y
  simp only [List.cons_append, List.nil_append] at N
  obtain ⟨p, loose, mg, mb, T⟩ := G.t
  have X := G.k
  have hlenv : zvs.length = 9 := by rw [← hz.length]; exact hlen
  obtain ⟨z1, t1, hz1⟩ : ∃ z t, zvs[1]? = some (.int z t) := by
    have h1 : 1 < zvs.length := by omega
    obtain ⟨a, -, t, ht⟩ := Paired.at' 1 hz (List.getElem?_eq_getElem h1)
    exact ⟨a, t, by rw [List.getElem?_eq_getElem h1, ht]⟩
  dsimp only at F N ⊢
  rename_i oc dc
  replace dc : oc.data = .cell none := dc
  replace F : Fr (hideAll s.heap [cl]) s.heap.objs.size h₁ (fun y => if y = Str.ofString "count" then some (.int (n : Int) tn) else if y = Str.ofString "cells" then some (.ref cl) else none) := F
  generalize hBB : hideAll s.heap [cl] = B at *
  generalize hLL : s.heap.objs.size = Lt at *
  have GB : Gl w B := by first | exact G | (rw [← hBB]; exact G)
  have hAd : ∀ env, Room (A.deeper env) 3 := fun env => hA.deeper env
  have hun : ∀ env, (A.deeper env).units < cLine := fun env => by have := (hAd env).un; omega
  k_steps
  refine comp_store (by rfl) (by rfl) (by decide) rfl (by decide) (by rfl) (by rfl) ?_
  k_steps
  rename IsRange _ _ _ _ _ _ _ _ => hR
  rename Fr _ _ _ _ => F1
  rename News _ _ _ _ => N1
  refine src_range (n := n) hA.hd F1 N1 hR (rng0_ok h8).1 (rng0_ok h8).2 (le8 h8) (fun i ys => Paired NatV (List.range i) ys) .nil (fun base C I D io i v h tk m₁ ys ep t hi hv hJ hID up F₂ N₂ => ?_) fun D h' tk ys ep hJ F₂ N₂ hk hD0 => ?_
  · have G₂ := GB.keeps up
    clear T X
    obtain ⟨p, loose, mg, mb, T⟩ := G₂.t
    have X := G₂.k
    unfold CompTurn
    rw [Int.zero_add] at hv
    subst hv
    k_steps
    refine askIfs_nil ?_
    rw [if_pos rfl]
    k_steps
    (any_goals (first | exact ("" : PySem.Str) | exact (0 : Nat) | exact PySem.Value.none | exact ([] : List (PySem.Str × PySem.Addr)) | skip))
    · show Paired _ _ _
      rw [List.range_succ]
      exact hJ.snoc ⟨_, rfl⟩
    · exact ⟨_, _, _, rfl, (by assumption), (by assumption)⟩
  · refine ⟨⟨_, F₂.ns⟩, Store.of F₂ N₂ fun h₃ tk₃ F₃ N₃ => ?_⟩
    have hDc : D ≠ Lt + 1 := fun q => by
      have := (N1 (Lt + 1, oc) (by simp)).1
      rw [← q, show _ = none from hD0] at this; cases this
    have hDcl : D ≠ cl := fun q => by
      have := (N1 (cl, listOf zvs.toArray epc) (by simp)).1
      rw [← q, show _ = none from hD0] at this; cases this
    clear F1 N1 F₂ N₂
    k_steps
    refine list_item (k := 1) (vs := zvs) N₃ (by k_mem) (by rfl) (by omega) hz1 ?_
    k_steps
    rename Fr _ _ _ _ => F4
    rename News _ _ _ _ => N4
    have hk0 := Int.fmod_nonneg_of_pos z1 (show (0 : Int) < (n : Int) by omega)
    have hk1 := Int.fmod_lt_of_pos z1 (show (0 : Int) < (n : Int) by omega)
    obtain ⟨k, hk2⟩ : ∃ k : Nat, z1.fmod (n : Int) = (k : Int) := ⟨(z1.fmod (n : Int)).toNat, by omega⟩
    have hkn : k < n := by omega
    have hysl : ys.length = n := by rw [← hJ.length, List.length_range]
    obtain ⟨tk2, hyk⟩ : ∃ t, ys[k]? = some (.int (k : Int) t) := by
      have h1 : k < ys.length := by omega
      obtain ⟨a, ha, t, ht⟩ := Paired.at' k hJ (List.getElem?_eq_getElem h1)
      rw [List.getElem?_range hkn] at ha
      cases ha
      exact ⟨t, by rw [List.getElem?_eq_getElem h1, ht]⟩
    have hclt : cl < Lt := by rw [← hLL]; exact Heap.lt_size hn
    refine pop_led (k := k) F4 N4 (by intro p hp; simp only [List.mem_cons, List.not_mem_nil, or_false] at hp; rcases hp with rfl | rfl; exact Ne.symm hDc; exact Ne.symm hDcl) hk2 hyk (by omega) fun h4 F5 N5 => ?_
    clear F4 N4
    have hleft : Paired NatV ((List.range n).eraseIdx k) (ys.eraseIdx k) := Paired.eraseIdx' k hJ
    have hper : ((List.range n).eraseIdx k ++ [k]).Perm (List.range n) := by
      have hkl : k < (List.range n).length := by rw [List.length_range]; exact hkn
      have h := perm_pop _ _ hkl
      rw [List.getElem_range] at h
      exact h
    have hlen1 : ((List.range n).eraseIdx k).length + 0 + 1 = n := by rw [List.length_eraseIdx_of_lt (by rw [List.length_range]; exact hkn), List.length_range]; omega
    generalize (List.range n).eraseIdx k = left at hleft hper hlen1
    generalize ys.eraseIdx k = lvs at hleft N5
    k_steps
    rename _ ∧ _ => l1
    rename Fr _ _ _ _ => F6
    rename News _ _ _ _ => N6
    rename _ = Data.cell _ => d2
    simp only [List.cons_append, List.nil_append] at N6
    rename_i rl _ _ _ _ oc2
    refine wpAny_For ?_
    k_steps
    refine slice_led (s := ⟨_, _, _, _, _⟩) (vs := zvs) F6 N6 (by k_mem) (by omega) (by omega) (by omega) (by omega) fun D2 h7 F7 N7 lD => ?_
    have hzs : ∀ (j : Nat) v, ((zvs.drop (2 : Int).toNat).take (((n : Int) + 1).toNat - (2 : Int).toNat))[j]? = some v → ∃ z t, v = .int z t := fun j v hv => by
      obtain ⟨a, -, t, ht⟩ := Paired.at' j (Paired.take' _ (Paired.drop' _ hz)) hv
      exact ⟨a, t, ht⟩
    have hzl : ((zvs.drop (2 : Int).toNat).take (((n : Int) + 1).toNat - (2 : Int).toNat)).length = n - 1 := by rw [List.length_take, List.length_drop]; omega
    generalize (zvs.drop (2 : Int).toNat).take (((n : Int) + 1).toNat - (2 : Int).toNat) = zsl at N7 hzs hzl
    clear F6 N6
    refine for_led2 (l := D2) (items := zsl.toArray) (n := 0) (news := (rl, listOf #[.int (k : Int) tk2] 0) :: (D, listOf (List.toArray lvs) (ep + 1)) :: (Lt + 1, oc2) :: (cl, listOf zvs.toArray epc) :: []) ["cell", "less", "more", "card"]
      (fun j f nw g' => g' = s.gens ∧ ∃ left lvs row rvs ep1 ep2, nw = (rl, listOf (List.toArray rvs) ep2) :: (D, listOf (List.toArray lvs) ep1) :: (Lt + 1, oc2) :: (cl, listOf zvs.toArray epc) :: [] ∧
        Paired NatV left lvs ∧ Paired NatV row rvs ∧ (left ++ row).Perm (List.range n) ∧ left.length + j + 1 = n ∧ ∃ r0 t0, row[0]? = some r0 ∧ rvs[0]? = some (.int ((r0 : Nat) : Int) t0))
      (hAd _).hd rfl rfl F7 N7 (fun p hp => Nat.ne_of_lt (lD p hp)) ?_ (fun _ _ _ _ _ _ _ _ => lot_name) ?_ ?_
    · exact ⟨rfl, left, lvs, [k], _, _, _, rfl, hleft, .cons ⟨_, rfl⟩ .nil, hper, hlen1, k, tk2, rfl, rfl⟩
    · clear F7 N7 hleft hper
      rintro j v f3 _ I2 io2 h11 tk11 _ hv ⟨rfl, left, lvs, row, rvs, ep1, ep2, rfl, hleft, hrow, hper, hlen, r0, t0, hr0, hv0⟩ hoff hDI F10 N10
      obtain ⟨z, tz, rfl⟩ := hzs j v (by simpa using hv)
      have hlv8 : lvs.length ≤ 8 := by rw [← hleft.length]; omega
      have hrv8 : rvs.length ≤ 8 := by
        have := hper.length_eq
        rw [List.length_append, List.length_range] at this
        rw [← hrow.length]; omega
      k_steps
      refine comp_store (by rfl) (by rfl) (by decide) rfl (by decide) (by rfl) (by rfl) ?_
      k_steps
      rename Fr _ _ _ _ => F11
      rename News _ _ _ _ => N11
      refine src_list (items := lvs) hA.hd F11 N11 ⟨_, N11.get (by k_mem), rfl, _, rfl⟩ (le8 hlv8) (fun i ys => Paired NatV ((left.take i).filter (fun c => decide (c < r0))) ys) (fun _ _ _ _ _ _ _ _ => lot_name) .nil
        (fun base C I D io i v h tk m₁ ys ep' hv hJ hID up F₁ N₁ => ?_) fun DL h' tk ysL epL hJL F₁ N₁ hk hDL => ?_
      · obtain ⟨c, hci, t, rfl⟩ := Paired.at' i hleft hv
        have G₂ := GB.keeps up
        clear T X F11 N11
        obtain ⟨p, loose, mg, mb, T⟩ := G₂.t
        have X := G₂.k
        unfold CompTurn
        k_steps
        refine askIfs_one ?_
        k_steps
        (any_goals (first | exact ("" : PySem.Str) | exact (0 : Nat) | exact PySem.Value.none | exact ([] : List (PySem.Str × PySem.Addr)) | skip))
        rename Fr base _ _ _ => F12
        rename News base _ _ _ => N12
        refine list_item (k := 0) (vs := rvs) N12 (by k_mem) (by rfl) (by omega) hv0 ?_
        k_steps
        (any_goals (first | exact ("" : PySem.Str) | exact (0 : Nat) | exact PySem.Value.none | exact ([] : List (PySem.Str × PySem.Addr)) | skip))
        · rename _ < (_ : Int) => hlt
          show Paired _ _ _
          rw [List.take_add_one, hci, List.filter_append]
          have : [c].filter (fun c => decide (c < r0)) = [c] := by rw [List.filter_cons, if_pos (by simpa using (by omega : c < r0))]; rfl
          simp only [Option.toList_some, this]
          exact hJ.snoc ⟨_, rfl⟩
        · exact ⟨_, _, _, rfl, (by assumption), (by assumption)⟩
        · rename ¬ _ < (_ : Int) => hlt
          show Paired _ _ _
          rw [List.take_add_one, hci, List.filter_append]
          have : [c].filter (fun c => decide (c < r0)) = [] := by rw [List.filter_cons, if_neg (by simpa using (by omega : ¬ (c < r0)))]; rfl
          simp only [Option.toList_some, this, List.append_nil]
          exact hJ
        · exact ⟨_, _, _, rfl, (by assumption), (by assumption)⟩
      rw [← hleft.length, List.take_length] at hJL
      refine ⟨⟨_, F₁.ns⟩, Store.of F₁ N₁ fun h₃ tk₃ FL NL => ?_⟩
      clear F11 N11 F₁ N₁
      k_steps
      refine comp_store (by rfl) (by rfl) (by decide) rfl (by decide) (by rfl) (by rfl) ?_
      k_steps
      rename Fr _ _ _ _ => F11
      rename News _ _ _ _ => N11
      refine src_list (items := lvs) hA.hd F11 N11 ⟨_, N11.get (by k_mem), rfl, _, rfl⟩ (le8 hlv8) (fun i ys => Paired NatV ((left.take i).filter (fun c => decide (r0 < c))) ys) (fun _ _ _ _ _ _ _ _ => lot_name) .nil
        (fun base C I D io i v h tk m₁ ys ep' hv hJ hID up F₁ N₁ => ?_) fun DM h' tk ysM epM hJM F₁ N₁ hk hDM => ?_
      · obtain ⟨c, hci, t, rfl⟩ := Paired.at' i hleft hv
        have G₂ := GB.keeps up
        clear T X F11 N11
        obtain ⟨p, loose, mg, mb, T⟩ := G₂.t
        have X := G₂.k
        unfold CompTurn
        k_steps
        refine askIfs_one ?_
        k_steps
        (any_goals (first | exact ("" : PySem.Str) | exact (0 : Nat) | exact PySem.Value.none | exact ([] : List (PySem.Str × PySem.Addr)) | skip))
        rename Fr base _ _ _ => F12
        rename News base _ _ _ => N12
        refine list_item (k := 0) (vs := rvs) N12 (by k_mem) (by rfl) (by omega) hv0 ?_
        k_steps
        (any_goals (first | exact ("" : PySem.Str) | exact (0 : Nat) | exact PySem.Value.none | exact ([] : List (PySem.Str × PySem.Addr)) | skip))
        · rename _ < (_ : Int) => hlt
          show Paired _ _ _
          rw [List.take_add_one, hci, List.filter_append]
          have : [c].filter (fun c => decide (r0 < c)) = [c] := by rw [List.filter_cons, if_pos (by simpa using (by omega : r0 < c))]; rfl
          simp only [Option.toList_some, this]
          exact hJ.snoc ⟨_, rfl⟩
        · exact ⟨_, _, _, rfl, (by assumption), (by assumption)⟩
        · rename ¬ _ < (_ : Int) => hlt
          show Paired _ _ _
          rw [List.take_add_one, hci, List.filter_append]
          have : [c].filter (fun c => decide (r0 < c)) = [] := by rw [List.filter_cons, if_neg (by simpa using (by omega : ¬ (r0 < c)))]; rfl
          simp only [Option.toList_some, this, List.append_nil]
          exact hJ
        · exact ⟨_, _, _, rfl, (by assumption), (by assumption)⟩
      rw [← hleft.length, List.take_length] at hJM
      refine ⟨⟨_, F₁.ns⟩, Store.of F₁ N₁ fun h₃ tk₃ FM NM => ?_⟩
      clear F11 N11 F₁ N₁
      have hj : j < n - 1 := by rw [← hzl]; exact (List.getElem?_eq_some_iff.mp (by simpa using hv)).1
      have hll : lvs.length = left.length := hleft.length.symm
      have hl8 : left.length ≤ 8 := by omega
      have hneD : ∀ p ∈ ((I2, io2) :: (D2, listOf zsl.toArray 0) :: (rl, listOf (List.toArray rvs) ep2) :: (Lt + 1, oc2) :: (cl, listOf zvs.toArray epc) :: [] : List (Addr × Obj)), p.1 ≠ D := by
        intro p hp
        simp only [List.mem_cons, List.not_mem_nil, or_false] at hp
        rcases hp with rfl | rfl | rfl | rfl | rfl
        · exact (hoff (D, listOf (List.toArray lvs) ep1) (.tail _ (.head _))).1.symm
        · exact (hoff (D, listOf (List.toArray lvs) ep1) (.tail _ (.head _))).2.symm
        · exact Nat.ne_of_gt l1.1
        · exact hDc.symm
        · exact hDcl.symm
      have hneR : ∀ lvs' : List Value, ∀ p ∈ ((D, listOf (List.toArray lvs') (ep1 + 1)) :: (I2, io2) :: (D2, listOf zsl.toArray 0) :: (Lt + 1, oc2) :: (cl, listOf zvs.toArray epc) :: [] : List (Addr × Obj)), p.1 ≠ rl := by
        intro lvs' p hp
        simp only [List.mem_cons, List.not_mem_nil, or_false] at hp
        rcases hp with rfl | rfl | rfl | rfl | rfl
        · exact Nat.ne_of_lt l1.1
        · exact (hoff (rl, listOf (List.toArray rvs) ep2) (.head _)).1.symm
        · exact (hoff (rl, listOf (List.toArray rvs) ep2) (.head _)).2.symm
        · exact Nat.ne_of_lt l1.2.1
        · exact Nat.ne_of_lt l1.2.2
      k_steps
      · have hk0 := Int.fmod_nonneg_of_pos (z.fdiv 7) (show (0 : Int) < (left.length : Int) by omega)
        have hk1 := Int.fmod_lt_of_pos (z.fdiv 7) (show (0 : Int) < (left.length : Int) by omega)
        obtain ⟨k, hk2⟩ : ∃ k : Nat, (z.fdiv 7).fmod (left.length : Int) = (k : Int) := ⟨((z.fdiv 7).fmod (left.length : Int)).toNat, by omega⟩
        have hkl : k < lvs.length := by omega
        obtain ⟨c, hck, tc, hvc⟩ := Paired.at' k hleft (List.getElem?_eq_getElem hkl)
        have hcm : c ∈ left := List.mem_of_getElem? hck
        rename News _ _ _ _ => NX
        refine list_item (k := k) (vs := lvs) NX (by k_mem) hk2 (by omega) (by rw [List.getElem?_eq_getElem hkl, hvc]) ?_
        k_steps
        rename Fr _ _ _ _ => FX
        rename News _ _ _ _ => NX
        have NY : News B Lt _ ((D, listOf (List.toArray lvs) ep1) :: (I2, io2) :: (D2, listOf zsl.toArray 0) :: (rl, listOf (List.toArray rvs) ep2) :: (Lt + 1, oc2) :: (cl, listOf zvs.toArray epc) :: []) := news_sub NX (by intro p hp; simp only [List.mem_cons, List.not_mem_nil, or_false] at hp ⊢; rcases hp with hp | hp | hp | hp | hp | hp <;> simp [hp])
        refine remove_led hleft hcm FX NY hneD (by omega) fun h20 lvs' hl' F20 N20 => ?_
        clear FX NX NY
        k_steps
        refine append_led (its := rvs) (n := ep2) (news := (D, listOf (List.toArray lvs') (ep1 + 1)) :: (I2, io2) :: (D2, listOf zsl.toArray 0) :: (Lt + 1, oc2) :: (cl, listOf zvs.toArray epc) :: []) F20 (news_sub N20 (by intro p hp; simp only [List.mem_cons, List.not_mem_nil, or_false] at hp ⊢; rcases hp with hp | hp | hp | hp | hp | hp <;> simp [hp])) (hneR lvs') (le8 hrv8) fun h21 F21 N21 => ?_
        clear F20 N20
        k_steps
        refine ⟨_, _, _, _, (rl, listOf (List.toArray (rvs ++ [.int (c : Int) tc])) (ep2 + 1)) :: (D, listOf (List.toArray lvs') (ep1 + 1)) :: (Lt + 1, oc2) :: (cl, listOf zvs.toArray epc) :: [], rfl, F21, st_off rfl (st_off rfl (st_off rfl (st_off rfl updL_offs))), news_sub N21 (by intro p hp; simp only [List.mem_cons, List.not_mem_nil, or_false] at hp ⊢; rcases hp with hp | hp | hp | hp | hp | hp <;> simp [hp]), ?_,
          rfl, left.erase c, lvs', row ++ [c], rvs ++ [.int (c : Int) tc], ep1 + 1, ep2 + 1, rfl, hl', hrow.snoc ⟨_, rfl⟩, turn_perm hper hcm, by rw [List.length_erase_of_mem hcm]; omega, r0, t0, by rw [List.getElem?_append_left (List.getElem?_eq_some_iff.mp hr0).1]; exact hr0, by rw [List.getElem?_append_left (List.getElem?_eq_some_iff.mp hv0).1]; exact hv0⟩
        intro p hp
        simp only [List.mem_cons, List.not_mem_nil, or_false] at hp
        rcases hp with rfl | rfl | rfl | rfl
        · exact hoff (rl, listOf (List.toArray rvs) ep2) (.head _)
        · exact hoff (D, listOf (List.toArray lvs) ep1) (.tail _ (.head _))
        · exact hoff _ (.tail _ (.tail _ (.head _)))
        · exact hoff _ (.tail _ (.tail _ (.tail _ (.head _))))
      · rename News _ _ _ _ => NX
        refine eq_lists (R := NatV) (xs := left.filter (fun c => decide (r0 < c))) (ys := []) (vs := ysM) (ws := []) hJM .nil (fun A' a b v w _ _ => eqv_nat A' _ a b v w) ⟨_, NX.get (by k_mem), rfl, _, rfl⟩ ⟨_, NX.get (by k_mem), rfl, _, rfl⟩ (hun _) ?_
        by_cases hm0 : left.filter (fun c => decide (r0 < c)) = []
        · rw [decide_eq_true hm0]
          have hLne := less_ne hper hr0 (by omega) hm0
          k_steps
          obtain ⟨k, hkL⟩ : ∃ k, (left.filter (fun c => decide (c < r0))).length = k + 1 := ⟨(left.filter (fun c => decide (c < r0))).length - 1, by have := List.length_pos_iff.mpr hLne; omega⟩
          have hysL : ysL.length = k + 1 := by rw [← hJL.length]; exact hkL
          have hfl := List.length_filter_le (fun c => decide (c < r0)) left
          have hkl : k < ysL.length := by omega
          obtain ⟨c, hck, tc, hvc⟩ := Paired.at' k hJL (List.getElem?_eq_getElem hkl)
          have hcm : c ∈ left := (List.mem_filter.mp (List.mem_of_getElem? hck)).1
          rename News _ _ _ _ => NX
          refine list_last (k := k) (vs := ysL) NX (by k_mem) hysL (by omega) (by rw [List.getElem?_eq_getElem hkl, hvc]) ?_
          k_steps
          rename Fr _ _ _ _ => FX
          rename News _ _ _ _ => NX
          have NY : News B Lt _ ((D, listOf (List.toArray lvs) ep1) :: (I2, io2) :: (D2, listOf zsl.toArray 0) :: (rl, listOf (List.toArray rvs) ep2) :: (Lt + 1, oc2) :: (cl, listOf zvs.toArray epc) :: []) := news_sub NX (by intro p hp; simp only [List.mem_cons, List.not_mem_nil, or_false] at hp ⊢; rcases hp with hp | hp | hp | hp | hp | hp <;> simp [hp])
          refine remove_led hleft hcm FX NY hneD (by omega) fun h20 lvs' hl' F20 N20 => ?_
          clear FX NX NY
          k_steps
          refine append_led (its := rvs) (n := ep2) (news := (D, listOf (List.toArray lvs') (ep1 + 1)) :: (I2, io2) :: (D2, listOf zsl.toArray 0) :: (Lt + 1, oc2) :: (cl, listOf zvs.toArray epc) :: []) F20 (news_sub N20 (by intro p hp; simp only [List.mem_cons, List.not_mem_nil, or_false] at hp ⊢; rcases hp with hp | hp | hp | hp | hp | hp <;> simp [hp])) (hneR lvs') (le8 hrv8) fun h21 F21 N21 => ?_
          clear F20 N20
          k_steps
          refine ⟨_, _, _, _, (rl, listOf (List.toArray (rvs ++ [.int (c : Int) tc])) (ep2 + 1)) :: (D, listOf (List.toArray lvs') (ep1 + 1)) :: (Lt + 1, oc2) :: (cl, listOf zvs.toArray epc) :: [], rfl, F21, st_off rfl (st_off rfl (st_off rfl (st_off rfl updL_offs))), news_sub N21 (by intro p hp; simp only [List.mem_cons, List.not_mem_nil, or_false] at hp ⊢; rcases hp with hp | hp | hp | hp | hp | hp <;> simp [hp]), ?_,
            rfl, left.erase c, lvs', row ++ [c], rvs ++ [.int (c : Int) tc], ep1 + 1, ep2 + 1, rfl, hl', hrow.snoc ⟨_, rfl⟩, turn_perm hper hcm, by rw [List.length_erase_of_mem hcm]; omega, r0, t0, by rw [List.getElem?_append_left (List.getElem?_eq_some_iff.mp hr0).1]; exact hr0, by rw [List.getElem?_append_left (List.getElem?_eq_some_iff.mp hv0).1]; exact hv0⟩
          intro p hp
          simp only [List.mem_cons, List.not_mem_nil, or_false] at hp
          rcases hp with rfl | rfl | rfl | rfl
          · exact hoff (rl, listOf (List.toArray rvs) ep2) (.head _)
          · exact hoff (D, listOf (List.toArray lvs) ep1) (.tail _ (.head _))
          · exact hoff _ (.tail _ (.tail _ (.head _)))
          · exact hoff _ (.tail _ (.tail _ (.tail _ (.head _))))
        · rw [decide_eq_false hm0]
          k_steps
          · rename News _ _ _ _ => NX
            refine ne_lists (R := NatV) (xs := left.filter (fun c => decide (c < r0))) (ys := []) (vs := ysL) (ws := []) hJL .nil (fun A' a b v w _ _ => eqv_nat A' _ a b v w) ⟨_, NX.get (by k_mem), rfl, _, rfl⟩ ⟨_, NX.get (by k_mem), rfl, _, rfl⟩ (hun _) ?_
            by_cases hLne : left.filter (fun c => decide (c < r0)) = []
            · rw [decide_eq_true hLne]
              dsimp only [Bool.not_true]
              k_steps
              have hysM : 0 < ysM.length := by rw [← hJM.length]; exact List.length_pos_iff.mpr hm0
              have hfl := List.length_filter_le (fun c => decide (r0 < c)) left
              have hysM8 : ysM.length ≤ 16 := by rw [← hJM.length]; omega
              obtain ⟨c, hck, tc, hvc⟩ := Paired.at' 0 hJM (List.getElem?_eq_getElem hysM)
              have hcm : c ∈ left := (List.mem_filter.mp (List.mem_of_getElem? hck)).1
              rename News _ _ _ _ => NX
              refine list_item (k := 0) (vs := ysM) NX (by k_mem) rfl hysM8 (by rw [List.getElem?_eq_getElem hysM, hvc]) ?_
              k_steps
              rename Fr _ _ _ _ => FX
              rename News _ _ _ _ => NX
              have NY : News B Lt _ ((D, listOf (List.toArray lvs) ep1) :: (I2, io2) :: (D2, listOf zsl.toArray 0) :: (rl, listOf (List.toArray rvs) ep2) :: (Lt + 1, oc2) :: (cl, listOf zvs.toArray epc) :: []) := news_sub NX (by intro p hp; simp only [List.mem_cons, List.not_mem_nil, or_false] at hp ⊢; rcases hp with hp | hp | hp | hp | hp | hp <;> simp [hp])
              refine remove_led hleft hcm FX NY hneD (by omega) fun h20 lvs' hl' F20 N20 => ?_
              clear FX NX NY
              k_steps
              refine append_led (its := rvs) (n := ep2) (news := (D, listOf (List.toArray lvs') (ep1 + 1)) :: (I2, io2) :: (D2, listOf zsl.toArray 0) :: (Lt + 1, oc2) :: (cl, listOf zvs.toArray epc) :: []) F20 (news_sub N20 (by intro p hp; simp only [List.mem_cons, List.not_mem_nil, or_false] at hp ⊢; rcases hp with hp | hp | hp | hp | hp | hp <;> simp [hp])) (hneR lvs') (le8 hrv8) fun h21 F21 N21 => ?_
              clear F20 N20
              k_steps
              refine ⟨_, _, _, _, (rl, listOf (List.toArray (rvs ++ [.int (c : Int) tc])) (ep2 + 1)) :: (D, listOf (List.toArray lvs') (ep1 + 1)) :: (Lt + 1, oc2) :: (cl, listOf zvs.toArray epc) :: [], rfl, F21, st_off rfl (st_off rfl (st_off rfl (st_off rfl updL_offs))), news_sub N21 (by intro p hp; simp only [List.mem_cons, List.not_mem_nil, or_false] at hp ⊢; rcases hp with hp | hp | hp | hp | hp | hp <;> simp [hp]), ?_,
                rfl, left.erase c, lvs', row ++ [c], rvs ++ [.int (c : Int) tc], ep1 + 1, ep2 + 1, rfl, hl', hrow.snoc ⟨_, rfl⟩, turn_perm hper hcm, by rw [List.length_erase_of_mem hcm]; omega, r0, t0, by rw [List.getElem?_append_left (List.getElem?_eq_some_iff.mp hr0).1]; exact hr0, by rw [List.getElem?_append_left (List.getElem?_eq_some_iff.mp hv0).1]; exact hv0⟩
              intro p hp
              simp only [List.mem_cons, List.not_mem_nil, or_false] at hp
              rcases hp with rfl | rfl | rfl | rfl
              · exact hoff (rl, listOf (List.toArray rvs) ep2) (.head _)
              · exact hoff (D, listOf (List.toArray lvs) ep1) (.tail _ (.head _))
              · exact hoff _ (.tail _ (.tail _ (.head _)))
              · exact hoff _ (.tail _ (.tail _ (.tail _ (.head _))))
            · rw [decide_eq_false hLne]
              dsimp only [Bool.not_false]
              k_steps
              obtain ⟨k, hkL⟩ : ∃ k, (left.filter (fun c => decide (c < r0))).length = k + 1 := ⟨(left.filter (fun c => decide (c < r0))).length - 1, by have := List.length_pos_iff.mpr hLne; omega⟩
              have hysL : ysL.length = k + 1 := by rw [← hJL.length]; exact hkL
              have hfl := List.length_filter_le (fun c => decide (c < r0)) left
              have hkl : k < ysL.length := by omega
              obtain ⟨c, hck, tc, hvc⟩ := Paired.at' k hJL (List.getElem?_eq_getElem hkl)
              have hcm : c ∈ left := (List.mem_filter.mp (List.mem_of_getElem? hck)).1
              rename News _ _ _ _ => NX
              refine list_last (k := k) (vs := ysL) NX (by k_mem) hysL (by omega) (by rw [List.getElem?_eq_getElem hkl, hvc]) ?_
              k_steps
              rename Fr _ _ _ _ => FX
              rename News _ _ _ _ => NX
              have NY : News B Lt _ ((D, listOf (List.toArray lvs) ep1) :: (I2, io2) :: (D2, listOf zsl.toArray 0) :: (rl, listOf (List.toArray rvs) ep2) :: (Lt + 1, oc2) :: (cl, listOf zvs.toArray epc) :: []) := news_sub NX (by intro p hp; simp only [List.mem_cons, List.not_mem_nil, or_false] at hp ⊢; rcases hp with hp | hp | hp | hp | hp | hp <;> simp [hp])
              refine remove_led hleft hcm FX NY hneD (by omega) fun h20 lvs' hl' F20 N20 => ?_
              clear FX NX NY
              k_steps
              refine append_led (its := rvs) (n := ep2) (news := (D, listOf (List.toArray lvs') (ep1 + 1)) :: (I2, io2) :: (D2, listOf zsl.toArray 0) :: (Lt + 1, oc2) :: (cl, listOf zvs.toArray epc) :: []) F20 (news_sub N20 (by intro p hp; simp only [List.mem_cons, List.not_mem_nil, or_false] at hp ⊢; rcases hp with hp | hp | hp | hp | hp | hp <;> simp [hp])) (hneR lvs') (le8 hrv8) fun h21 F21 N21 => ?_
              clear F20 N20
              k_steps
              refine ⟨_, _, _, _, (rl, listOf (List.toArray (rvs ++ [.int (c : Int) tc])) (ep2 + 1)) :: (D, listOf (List.toArray lvs') (ep1 + 1)) :: (Lt + 1, oc2) :: (cl, listOf zvs.toArray epc) :: [], rfl, F21, st_off rfl (st_off rfl (st_off rfl (st_off rfl updL_offs))), news_sub N21 (by intro p hp; simp only [List.mem_cons, List.not_mem_nil, or_false] at hp ⊢; rcases hp with hp | hp | hp | hp | hp | hp <;> simp [hp]), ?_,
                rfl, left.erase c, lvs', row ++ [c], rvs ++ [.int (c : Int) tc], ep1 + 1, ep2 + 1, rfl, hl', hrow.snoc ⟨_, rfl⟩, turn_perm hper hcm, by rw [List.length_erase_of_mem hcm]; omega, r0, t0, by rw [List.getElem?_append_left (List.getElem?_eq_some_iff.mp hr0).1]; exact hr0, by rw [List.getElem?_append_left (List.getElem?_eq_some_iff.mp hv0).1]; exact hv0⟩
              intro p hp
              simp only [List.mem_cons, List.not_mem_nil, or_false] at hp
              rcases hp with rfl | rfl | rfl | rfl
              · exact hoff (rl, listOf (List.toArray rvs) ep2) (.head _)
              · exact hoff (D, listOf (List.toArray lvs) ep1) (.tail _ (.head _))
              · exact hoff _ (.tail _ (.tail _ (.head _)))
              · exact hoff _ (.tail _ (.tail _ (.tail _ (.head _))))
          · skip
            have hysM : 0 < ysM.length := by rw [← hJM.length]; exact List.length_pos_iff.mpr hm0
            have hfl := List.length_filter_le (fun c => decide (r0 < c)) left
            have hysM8 : ysM.length ≤ 16 := by rw [← hJM.length]; omega
            obtain ⟨c, hck, tc, hvc⟩ := Paired.at' 0 hJM (List.getElem?_eq_getElem hysM)
            have hcm : c ∈ left := (List.mem_filter.mp (List.mem_of_getElem? hck)).1
            rename News _ _ _ _ => NX
            refine list_item (k := 0) (vs := ysM) NX (by k_mem) rfl hysM8 (by rw [List.getElem?_eq_getElem hysM, hvc]) ?_
            k_steps
            rename Fr _ _ _ _ => FX
            rename News _ _ _ _ => NX
            have NY : News B Lt _ ((D, listOf (List.toArray lvs) ep1) :: (I2, io2) :: (D2, listOf zsl.toArray 0) :: (rl, listOf (List.toArray rvs) ep2) :: (Lt + 1, oc2) :: (cl, listOf zvs.toArray epc) :: []) := news_sub NX (by intro p hp; simp only [List.mem_cons, List.not_mem_nil, or_false] at hp ⊢; rcases hp with hp | hp | hp | hp | hp | hp <;> simp [hp])
            refine remove_led hleft hcm FX NY hneD (by omega) fun h20 lvs' hl' F20 N20 => ?_
            clear FX NX NY
            k_steps
            refine append_led (its := rvs) (n := ep2) (news := (D, listOf (List.toArray lvs') (ep1 + 1)) :: (I2, io2) :: (D2, listOf zsl.toArray 0) :: (Lt + 1, oc2) :: (cl, listOf zvs.toArray epc) :: []) F20 (news_sub N20 (by intro p hp; simp only [List.mem_cons, List.not_mem_nil, or_false] at hp ⊢; rcases hp with hp | hp | hp | hp | hp | hp <;> simp [hp])) (hneR lvs') (le8 hrv8) fun h21 F21 N21 => ?_
            clear F20 N20
            k_steps
            refine ⟨_, _, _, _, (rl, listOf (List.toArray (rvs ++ [.int (c : Int) tc])) (ep2 + 1)) :: (D, listOf (List.toArray lvs') (ep1 + 1)) :: (Lt + 1, oc2) :: (cl, listOf zvs.toArray epc) :: [], rfl, F21, st_off rfl (st_off rfl (st_off rfl (st_off rfl updL_offs))), news_sub N21 (by intro p hp; simp only [List.mem_cons, List.not_mem_nil, or_false] at hp ⊢; rcases hp with hp | hp | hp | hp | hp | hp <;> simp [hp]), ?_,
              rfl, left.erase c, lvs', row ++ [c], rvs ++ [.int (c : Int) tc], ep1 + 1, ep2 + 1, rfl, hl', hrow.snoc ⟨_, rfl⟩, turn_perm hper hcm, by rw [List.length_erase_of_mem hcm]; omega, r0, t0, by rw [List.getElem?_append_left (List.getElem?_eq_some_iff.mp hr0).1]; exact hr0, by rw [List.getElem?_append_left (List.getElem?_eq_some_iff.mp hv0).1]; exact hv0⟩
            intro p hp
            simp only [List.mem_cons, List.not_mem_nil, or_false] at hp
            rcases hp with rfl | rfl | rfl | rfl
            · exact hoff (rl, listOf (List.toArray rvs) ep2) (.head _)
            · exact hoff (D, listOf (List.toArray lvs) ep1) (.tail _ (.head _))
            · exact hoff _ (.tail _ (.tail _ (.head _)))
            · exact hoff _ (.tail _ (.tail _ (.tail _ (.head _))))
    · clear F7 N7 hleft hper
      rintro f3 _ h11 tk11 _ ⟨rfl, left, lvs, row, rvs, ep1, ep2, rfl, hleft, hrow, hper, hlen, r0, t0, hr0, hv0⟩ F10 N10
      rw [List.size_toArray, hzl] at hlen
      obtain rfl : left = [] := List.length_eq_zero_iff.mp (by omega)
      k_steps
      rename Fr _ _ _ _ => F12
      rename News _ _ _ _ => N12
      refine ret rl row rvs _ _ _ hper hrow (fun b o e => ?_) (N12 (rl, listOf (List.toArray rvs) ep2) (by simp)).1 ?_
      · by_cases q : b = cl
        · rw [q] at e ⊢
          rw [hn] at e; cases e
          exact (N12 (cl, listOf zvs.toArray epc) (by simp)).1
        · refine F12.keep b o ?_
          rw [← hBB]
          exact hideAll_get _ e (by simpa using q)
      · cases e : s.heap.get? rl with
        | none => rfl
        | some o =>
          have h1 := hideAll_get [cl] e (by simpa using Nat.ne_of_gt l1.2.2)
          have h2 := (N12 (rl, listOf (List.toArray rvs) ep2) (by simp)).2.2
          rw [← hBB] at h2
          rw [h2] at h1; cases h1
end
end Mine
end
section
open PySem PySem.W PySem.Calls PyProof.Rows
set_option maxRecDepth 100000
namespace Mine
theorem signs_ok (t0 t1 t2 t3 t4 t5 t6 t7 t8 t9 t10 t11 t12 t13 t14 t15 : Tok) : ∃ vs : List Value, vs = [.str (Str.ofString "+") t0, .str (Str.ofString "-") t1, .str (Str.ofString "*") t2, .str (Str.ofString "/") t3, .str (Str.ofString "|") t4, .str (Str.ofString "&") t5, .str (Str.ofString "<") t6, .str (Str.ofString ">") t7, .str (Str.ofString "=") t8, .str (Str.ofString ".") t9, .str (Str.ofString "%") t10, .str (Str.ofString "{") t11, .str (Str.ofString "}") t12, .str (Str.ofString "==") t13, .str (Str.ofString "!=") t14, .str (Str.ofString "<=") t15] ∧ vs.length = 16 ∧ ∀ j, j < 16 → ∃ t, vs[j]? = some (.str (sg j) t) := by
  refine ⟨_, rfl, rfl, fun j hj => ?_⟩
  match j, hj with
  | 0, _ => exact ⟨_, rfl⟩
  | 1, _ => exact ⟨_, rfl⟩
  | 2, _ => exact ⟨_, rfl⟩
  | 3, _ => exact ⟨_, rfl⟩
  | 4, _ => exact ⟨_, rfl⟩
  | 5, _ => exact ⟨_, rfl⟩
  | 6, _ => exact ⟨_, rfl⟩
  | 7, _ => exact ⟨_, rfl⟩
  | 8, _ => exact ⟨_, rfl⟩
  | 9, _ => exact ⟨_, rfl⟩
  | 10, _ => exact ⟨_, rfl⟩
  | 11, _ => exact ⟨_, rfl⟩
  | 12, _ => exact ⟨_, rfl⟩
  | 13, _ => exact ⟨_, rfl⟩
  | 14, _ => exact ⟨_, rfl⟩
  | 15, _ => exact ⟨_, rfl⟩
  | n + 16, h => exact absurd h (by omega)
section
variable {prog : Program} {w : World} {A : Around} {E : Value → Shared → Prop} {s : Shared}
local macro_rules | `(tactic| walk_at "exec For") => `(tactic| (k_here; refine Halt.mk ?_))
local macro_rules | `(tactic| walk_at "last exec For") => `(tactic| (k_here; refine Halt.mk ?_))
local macro_rules | `(tactic| walk_at "compareOp Eq ref ref") => `(tactic| (k_here; refine Halt.mk ?_))
local macro_rules | `(tactic| walk_at "compareOp NotEq ref ref") => `(tactic| (k_here; refine Halt.mk ?_))
local macro_rules | `(tactic| walk_at "eval ListComp") => `(tactic| (k_here; refine Halt.mk ?_))
local macro_rules | `(tactic| walk_at "exec Assign cons ListComp") => `(tactic| (k_here; refine Halt.mk ?_))
local macro_rules | `(tactic| walk_at "call builtin:len") => `(tactic| (k_here; (refine len_faces (by assumption) (by k_mem) (by assumption) (by assumption) ?_); (try dsimp only)))
local macro_rules | `(tactic| walk_at "call ref") => `(tactic| (k_here; refine Halt.mk ?_))
local macro_rules | `(tactic| walk_at "call builtin:list.append") => `(tactic| (k_here; refine Halt.mk ?_))
local macro_rules | `(tactic| walk_at "call builtin:list.pop") => `(tactic| (k_here; refine Halt.mk ?_))
local macro_rules | `(tactic| walk_at "call builtin:list.remove") => `(tactic| (k_here; refine Halt.mk ?_))
local macro_rules | `(tactic| walk_at "subscriptTail") => `(tactic| (k_here; first
  | ((with_reducible show wpAny _ _ (subscriptTail _ _ (Value.ref _) (Value.int _ _)) _ _ _); (refine list_item (k := 0) (by assumption) (by k_mem) (by rfl) (by omega) (by assumption) ?_))
  | refine Halt.mk ?_))
local macro_rules | `(tactic| walk_at "subscriptTail Name Slice ref ref") => `(tactic| (k_here; refine Halt.mk ?_))
local macro_rules | `(tactic| walk_at "eval Name") => `(tactic| (k_here; (with_reducible show wpAny _ _ (eval (Expr.Name _ _) (compEnvC _ _ _ _)) _ _ _); first
  | (refine' cn_L ?zF ?zv ?_ ?za ?zb; (case zF => k_asm); (case za => rfl); (case zb => rfl); (case zv => rfl); k_whole)
  | (refine' cn_K ?zF ?zX ?zT ?ze ?_ ?za ?zb; (case zF => k_asm); (case zX => k_asm); (case zT => k_asm); (case za => rfl); (case zb => rfl); (case ze => k_is); k_whole)
  | (refine' cn_B ?zF ?zX ?zT ?ze ?zv ?zn ?_ ?za ?zb; (case zF => k_asm); (case zX => k_asm); (case zT => k_asm); (case za => rfl); (case zb => rfl); (case ze => k_is); (case zv => boot_fast); (case zn => decide); k_whole)
  | (refine' cn_C ?zN ?zc ?zm ?zd ?_ ?za ?zb; (case za => rfl); (case zb => rfl); (case zN => k_asm); (case zc => rfl); (case zm => k_mem); (case zd => k_asm); k_whole)))
local macro_rules | `(tactic| walk_at "storeName") => `(tactic| (k_here; (with_reducible show wpAny _ _ (storeName (compEnvC _ _ _ _) _ _) _ _ _); (refine' cn_store ?zF ?zN ?_ ?za ?zb; (case zF => k_asm); (case zN => k_asm); (case za => rfl); (case zb => rfl); k_whole; intro h' F' N'; (try k_sweep))))
set_option maxHeartbeats 4000000 in
theorem faces_spec {Q : Value → Shared → Prop} {rl : Addr} {epr : Nat} {row : List Nat} {rvs : List Value} {st : Nat} {tn : Tok} (hr : Paired NatV row rvs) (hc : ∀ c ∈ row, c < 8) (h8 : row.length ≤ 8) (hst : st ≤ 8)
    (hn : s.heap.get? rl = some (listOf rvs.toArray epr)) (G : Gl w (hideAll s.heap [rl])) (hA : Room A 4)
    (ret : ∀ D ys ep h' tk', Paired SgV (row.map (st + ·)) ys → (∀ b o, s.heap.get? b = some o → h'.get? b = some o) → h'.get? D = some (listOf (List.toArray ys) ep) → s.heap.get? D = none → Q (.ref D) { s with heap := h', toks := tk' }) :
    wpAny (model prog w) A (call (.ref 209) [.ref rl, .int (st : Int) tn]) Q E s := by
  refine wpAny_call (enter_cell (binds := [("row", .ref rl), ("start", .int (st : Int) tn)]) (news := [(rl, listOf rvs.toArray epr)]) (by intro p hp; rw [List.mem_singleton.mp hp]; exact hn) G (hA.le (by omega)) (by rfl) (by rfl) (.of_eq rfl) (by rfl) (by decide +kernel) fun h₁ tk0 cells F N Y => ?_)
  simp only [List.map_cons, List.map_nil] at F N Y
  k_cells Y
  simp only [List.cons_append, List.nil_append] at N
  obtain ⟨p, loose, mg, mb, T⟩ := G.t
  have X := G.k
  dsimp only at F N ⊢
  rename_i o1 o2 d1 d2
  replace d1 : o1.data = .cell none := d1
  replace d2 : o2.data = .cell (some (.int (st : Int) tn)) := d2
  replace F : Fr (hideAll s.heap [rl]) s.heap.objs.size h₁ (fun y => if y = Str.ofString "row" then some (.ref rl) else none) := F
  generalize hBB : hideAll s.heap [rl] = B at *
  generalize hLL : s.heap.objs.size = Lt at *
  have GB : Gl w B := by first | exact G | (rw [← hBB]; exact G)
  have hrl : rl < Lt := by rw [← hLL]; exact Heap.lt_size hn
  k_steps
  rename Fr _ _ _ _ => F1
  rename News _ _ _ _ => N1
  rename _ = Data.cell (some (Value.ref _)) => d3
  simp only [List.cons_append, List.nil_append] at N1
  obtain ⟨vs, hvs, hvl, hat⟩ := signs_ok (tk0) (tk0 + 1) (tk0 + 1 + 1) (tk0 + 1 + 1 + 1) (tk0 + 1 + 1 + 1 + 1) (tk0 + 1 + 1 + 1 + 1 + 1) (tk0 + 1 + 1 + 1 + 1 + 1 + 1) (tk0 + 1 + 1 + 1 + 1 + 1 + 1 + 1) (tk0 + 1 + 1 + 1 + 1 + 1 + 1 + 1 + 1) (tk0 + 1 + 1 + 1 + 1 + 1 + 1 + 1 + 1 + 1) (tk0 + 1 + 1 + 1 + 1 + 1 + 1 + 1 + 1 + 1 + 1) (tk0 + 1 + 1 + 1 + 1 + 1 + 1 + 1 + 1 + 1 + 1 + 1) (tk0 + 1 + 1 + 1 + 1 + 1 + 1 + 1 + 1 + 1 + 1 + 1 + 1) (tk0 + 1 + 1 + 1 + 1 + 1 + 1 + 1 + 1 + 1 + 1 + 1 + 1 + 1) (tk0 + 1 + 1 + 1 + 1 + 1 + 1 + 1 + 1 + 1 + 1 + 1 + 1 + 1 + 1) (tk0 + 1 + 1 + 1 + 1 + 1 + 1 + 1 + 1 + 1 + 1 + 1 + 1 + 1 + 1 + 1)
  rw [← hvs] at N1
  clear hvs
  rename_i _ _ _ _ _ o3
  refine comp_eval (by rfl) (by decide) rfl (by decide) ?_
  k_steps
  rename Fr _ _ _ _ => F2
  rename News _ _ _ _ => N2
  refine src_list (items := rvs) hA.hd F2 N2 ⟨_, N2.get (by k_mem), rfl, _, rfl⟩ (le8 (hr.length ▸ h8)) (fun i ys => Paired SgV ((row.take i).map (st + ·)) ys) (fun _ _ _ _ _ _ _ _ => lot_name) .nil
    (fun base C I D io i v h tk m₁ ys ep' hv hJ hID up F₁ N₁ => ?_) fun D h' tk ys ep' hJ F₁ N₁ hk hD0 => ?_
  · obtain ⟨c, hci, t, rfl⟩ := Paired.at' i hr hv
    have hc8 : c < 8 := hc c (List.mem_of_getElem? hci)
    have G₂ := GB.keeps up
    clear T X F2 N2
    obtain ⟨p, loose, mg, mb, T⟩ := G₂.t
    have X := G₂.k
    unfold CompTurn
    k_steps
    refine askIfs_nil ?_
    rw [if_pos rfl]
    k_steps
    (any_goals (first | exact ("" : PySem.Str) | exact (0 : Nat) | exact PySem.Value.none | exact ([] : List (PySem.Str × PySem.Addr)) | skip))
    obtain ⟨tq, htq⟩ := hat (st + c) (by omega)
    rename News _ _ _ _ => N3
    refine list_item (k := st + c) (vs := vs) N3 (by k_mem) (by push_cast; rfl) (by omega) htq ?_
    k_steps
    (any_goals (first | exact ("" : PySem.Str) | exact (0 : Nat) | exact PySem.Value.none | exact ([] : List (PySem.Str × PySem.Addr)) | skip))
    · show Paired _ _ _
      rw [List.take_add_one, hci, List.map_append]
      exact hJ.snoc ⟨_, rfl⟩
    · exact ⟨_, _, _, rfl, (by assumption), (by assumption)⟩
  · rw [← hr.length, List.take_length] at hJ
    dsimp only
    have hDrl : D ≠ rl := fun q => by
      have := (N2 (rl, listOf rvs.toArray epr) (by simp)).1
      rw [← q, show _ = none from hD0] at this; cases this
    refine ret D ys ep' h' _ hJ (fun b o e => ?_) (N₁ _ (.head _)).1 ?_
    · by_cases q : b = rl
      · rw [q] at e ⊢
        rw [hn] at e; cases e
        exact (N₁ (rl, listOf rvs.toArray epr) (by simp)).1
      · refine F₁.keep b o ?_
        rw [← hBB]
        exact hideAll_get _ e (by simpa using q)
    · cases e : s.heap.get? D with
      | none => rfl
      | some o =>
        have h1 := hideAll_get [rl] e (by simpa using hDrl)
        rw [hBB] at h1
        have h2 := F2.keep _ _ h1
        rw [show _ = none from hD0] at h2; cases h2
end
end Mine
end
section
open PySem PySem.W PySem.Calls PyProof.Rows
set_option maxRecDepth 100000
namespace Mine
def symsOf (cs : List Nat) : List Int := cs.map fun c => symN c (cs.headD 0)
def belowOf (cs : List Nat) : List Int := (symsOf cs).filter fun z => decide (z < 256)
def othersOf (cs : List Nat) : List Int := (symsOf cs).filter fun z => decide (z ≥ 256)
def apartOf (cs : List Nat) : Bool := decide ((belowOf cs).reverse ++ othersOf cs = (List.range cs.length).map fun (k : Nat) => 256 - ((belowOf cs).length : Int) + (k : Int))
theorem lis_at {h₀ h : Heap} {L l : Addr} {news : List (Addr × Obj)} {vs : List Value} {n : Nat} (N : News h₀ L h news) (hm : (l, listOf vs.toArray n) ∈ news) : h.IsList l vs.toArray := PySem.IsL.isList (n := n) (N _ hm).1
theorem Paired.append' {α β : Type} {F : α → β → Prop} : ∀ {l₁ : List α} {l₂ : List β} {m₁ : List α} {m₂ : List β}, Paired F l₁ l₂ → Paired F m₁ m₂ → Paired F (l₁ ++ m₁) (l₂ ++ m₂)
  | _, _, _, _, .nil, h => h
  | _, _, _, _, .cons a h, k => .cons a (Paired.append' h k)
theorem Paired.reverse' {α β : Type} {F : α → β → Prop} : ∀ {l₁ : List α} {l₂ : List β}, Paired F l₁ l₂ → Paired F l₁.reverse l₂.reverse
  | _, _, .nil => .nil
  | _, _, .cons a h => by rw [List.reverse_cons, List.reverse_cons]; exact Paired.append' (Paired.reverse' h) (.cons a .nil)
section
variable {prog : Program} {w : World} {A : Around} {E : Value → Shared → Prop} {s : Shared}
theorem assign_plain {env : Env} {y : Str} {py : Pos} {value : Expr} {pos : Pos} {Q : Flow → Shared → Prop} (hs : swapsWith value (some (.Name y py)) pos.line env = pure false)
    (h : wpAny (model prog w) A (eval value env) (fun v s₁ => wpAny (model prog w) A (storeName env y v) (fun _ => Q .next) E s₁) E s) : wpAny (model prog w) A (exec (.Assign [.Name y py] value pos) env) Q E s := by
  rw [exec_Assign_Name _ _ _ _ _ hs]
  refine wpAny_bind (wpAny_standAt (wpAny_bind (wpAny_mono h (fun v s₁ h₁ => wpAny_bind (wpAny_standAt (wpAny_bind (wpAny_bindName (wpAny_mono h₁ (fun _ _ x => wpAny_pure x) fun _ _ x => x))))) fun _ _ x => x)))
local macro_rules | `(tactic| walk_at "exec For") => `(tactic| (k_here; refine Halt.mk ?_))
local macro_rules | `(tactic| walk_at "last exec For") => `(tactic| (k_here; refine Halt.mk ?_))
local macro_rules | `(tactic| walk_at "compareOp Eq ref ref") => `(tactic| (k_here; refine Halt.mk ?_))
local macro_rules | `(tactic| walk_at "compareOp NotEq ref ref") => `(tactic| (k_here; refine Halt.mk ?_))
local macro_rules | `(tactic| walk_at "eval ListComp") => `(tactic| (k_here; refine Halt.mk ?_))
local macro_rules | `(tactic| walk_at "exec Assign cons ListComp") => `(tactic| (k_here; refine Halt.mk ?_))
local macro_rules | `(tactic| walk_at "call builtin:len") => `(tactic| (k_here; (refine len_faces (by assumption) (by k_mem) (by assumption) (by assumption) ?_); (try dsimp only)))
local macro_rules | `(tactic| walk_at "call ref") => `(tactic| (k_here; first
  | ((with_unfolding_all refine symbol_spec (Gl.keeps (by assumption) (Fr.keep (by assumption))) (Room.deeper (by assumption) _) (by assumption) (by assumption) ?_); intro hz tz tz' kz; (have Fz := fr_keeps (by assumption) kz); (have Nz := news_keeps (by assumption) kz); clear kz; (try dsimp only))
  | ((with_unfolding_all refine isterm_spec (Gl.keeps (by assumption) (Fr.keep (by assumption))) (Room.deeper (by assumption) _) ?_); intro hz tz kz; (have Fz := fr_keeps (by assumption) kz); (have Nz := news_keeps (by assumption) kz); clear kz; (try dsimp only))
  | ((with_unfolding_all refine isnont_spec (Gl.keeps (by assumption) (Fr.keep (by assumption))) (Room.deeper (by assumption) _) ?_); intro hz tz kz; (have Fz := fr_keeps (by assumption) kz); (have Nz := news_keeps (by assumption) kz); clear kz; (try dsimp only))
  | refine Halt.mk ?_))
local macro_rules | `(tactic| walk_at "call builtin:list.append") => `(tactic| (k_here; refine Halt.mk ?_))
local macro_rules | `(tactic| walk_at "call builtin:list.pop") => `(tactic| (k_here; refine Halt.mk ?_))
local macro_rules | `(tactic| walk_at "call builtin:list.remove") => `(tactic| (k_here; refine Halt.mk ?_))
local macro_rules | `(tactic| walk_at "subscriptTail") => `(tactic| (k_here; first
  | ((with_reducible show wpAny _ _ (subscriptTail _ _ (Value.ref _) (Value.int _ _)) _ _ _); (refine list_item (k := 0) (by assumption) (by k_mem) (by rfl) (by omega) (by assumption) ?_))
  | refine Halt.mk ?_))
local macro_rules | `(tactic| walk_at "subscriptTail Name Slice ref ref") => `(tactic| (k_here; refine Halt.mk ?_))
local macro_rules | `(tactic| walk_at "eval Name") => `(tactic| (k_here; (with_reducible show wpAny _ _ (eval (Expr.Name _ _) (compEnvC _ _ _ _)) _ _ _); first
  | (refine' cn_L ?zF ?zv ?_ ?za ?zb; (case zF => k_asm); (case za => rfl); (case zb => rfl); (case zv => rfl); k_whole)
  | (refine' cn_K ?zF ?zX ?zT ?ze ?_ ?za ?zb; (case zF => k_asm); (case zX => k_asm); (case zT => k_asm); (case za => rfl); (case zb => rfl); (case ze => k_is); k_whole)
  | (refine' cn_B ?zF ?zX ?zT ?ze ?zv ?zn ?_ ?za ?zb; (case zF => k_asm); (case zX => k_asm); (case zT => k_asm); (case za => rfl); (case zb => rfl); (case ze => k_is); (case zv => boot_fast); (case zn => decide); k_whole)
  | (refine' cn_C ?zN ?zc ?zm ?zd ?_ ?za ?zb; (case za => rfl); (case zb => rfl); (case zN => k_asm); (case zc => rfl); (case zm => k_mem); (case zd => k_asm); k_whole)))
local macro_rules | `(tactic| walk_at "storeName") => `(tactic| (k_here; (with_reducible show wpAny _ _ (storeName (compEnvC _ _ _ _) _ _) _ _ _); (refine' cn_store ?zF ?zN ?_ ?za ?zb; (case zF => k_asm); (case zN => k_asm); (case za => rfl); (case zb => rfl); k_whole; intro h' F' N'; (try k_sweep))))
set_option maxHeartbeats 4000000 in
theorem apart_spec {Q : Value → Shared → Prop} {fl : Addr} {epf : Nat} {cs : List Nat} {fvs : List Value} (hfv : Paired SgV cs fvs) (hc : ∀ c ∈ cs, c < 16) (h5 : 5 ≤ cs.length) (h8 : cs.length ≤ 8)
    (hn : s.heap.get? fl = some (listOf fvs.toArray epf)) (G : Gl w (hideAll s.heap [fl])) (hA : Room A 5)
    (ret : ∀ h' tk', (∀ b o, s.heap.get? b = some o → h'.get? b = some o) → Q (.bool (apartOf cs)) { s with heap := h', toks := tk' }) :
    wpAny (model prog w) A (call (.ref 228) [.ref fl]) Q E s := by
  refine wpAny_call (enter_cell (binds := [("faces", .ref fl)]) (news := [(fl, listOf fvs.toArray epf)]) (by intro p hp; rw [List.mem_singleton.mp hp]; exact hn) G (hA.le (by omega)) (by rfl) (by rfl) (.of_eq rfl) (by rfl) (by decide +kernel) fun h₁ tk0 cells F N Y => ?_)
  simp only [List.map_cons, List.map_nil] at F N Y
  k_cells Y
  simp only [List.cons_append, List.nil_append] at N
  obtain ⟨p, loose, mg, mb, T⟩ := G.t
  have X := G.k
  have hA2 : Room A 2 := hA.le (by omega)
  have hlen : fvs.length = cs.length := hfv.length.symm
  obtain ⟨top, ttop, htop, htop16, hhd⟩ : ∃ top tt, fvs[0]? = some (.str (sg top) tt) ∧ top < 16 ∧ cs.headD 0 = top := by
    cases hfv with
    | nil => simp at h5
    | cons a b => obtain ⟨t, rfl⟩ := a; exact ⟨_, t, rfl, hc _ (.head _), rfl⟩
  dsimp only at F N ⊢
  rename_i o1 o2 d1 d2
  replace d1 : o1.data = .cell none := d1
  replace d2 : o2.data = .cell (some (.ref fl)) := d2
  replace F : Fr (hideAll s.heap [fl]) s.heap.objs.size h₁ (fun y => none) := F
  generalize hBB : hideAll s.heap [fl] = B at *
  generalize hLL : s.heap.objs.size = Lt at *
  have GB : Gl w B := by first | exact G | (rw [← hBB]; exact G)
  have hfl : fl < Lt := by rw [← hLL]; exact Heap.lt_size hn
  have hun : ∀ env, (A.deeper env).units < cLine := fun env => by have := (hA.deeper (n := 4) env).un; omega
  k_steps
  refine comp_store (by rfl) (by rfl) (by decide) rfl (by decide) (by rfl) (by rfl) ?_
  k_steps
  rename Fr _ _ _ _ => F1
  rename News _ _ _ _ => N1
  refine src_list (items := fvs) hA.hd F1 N1 (lis_at N1 (by k_mem)) (le8 (hlen ▸ h8)) (fun i ys => Paired IntV ((cs.take i).map fun c => symN c top) ys) (fun _ _ _ _ _ _ _ _ => lot_name) .nil
    (fun base C I D io i v h tk m₁ ys ep' hv hJ hID up F₁ N₁ => ?_) fun Ds h' tk yss eps hJs F₁ N₁ hk hDs => ?_
  · obtain ⟨c, hci, t, rfl⟩ := Paired.at' i hfv hv
    have hc16 : c < 16 := hc c (List.mem_of_getElem? hci)
    have G₂ := GB.keeps up
    clear T X F1 N1
    obtain ⟨p, loose, mg, mb, T⟩ := G₂.t
    have X := G₂.k
    unfold CompTurn
    k_steps
    refine askIfs_nil ?_
    rw [if_pos rfl]
    k_steps
    (any_goals (first | exact ("" : PySem.Str) | exact (0 : Nat) | exact PySem.Value.none | exact ([] : List (PySem.Str × PySem.Addr)) | skip))
    rename News _ _ _ _ => N3
    refine list_item (k := 0) (vs := fvs) N3 (by k_mem) (by rfl) (by omega) htop ?_
    k_steps
    (any_goals (first | exact ("" : PySem.Str) | exact (0 : Nat) | exact PySem.Value.none | exact ([] : List (PySem.Str × PySem.Addr)) | skip))
    · show Paired _ _ _
      rw [List.take_add_one, hci, List.map_append]
      exact hJ.snoc ⟨_, rfl⟩
    · exact ⟨_, _, _, rfl, (by assumption), (by assumption)⟩
  · refine ⟨⟨_, F₁.ns⟩, Store.of F₁ N₁ fun h₃ tk₃ F₃ N₃ => ?_⟩
    have hDs1 : Ds ≠ Lt + 1 + 1 := fun q => by
      have := (N1 (Lt + 1 + 1, o1) (by simp)).1
      rw [← q, show _ = none from hDs] at this; cases this
    clear F1 N1 F₁ N₁
    have hsy : (cs.take fvs.length).map (fun c => symN c top) = symsOf cs := by rw [hlen, List.take_length]; unfold symsOf; rw [hhd]
    rw [hsy] at hJs
    have hsl : (symsOf cs).length = cs.length := by simp [symsOf]
    have hysl : yss.length = cs.length := by rw [← hJs.length, hsl]
    k_steps
    refine assign_plain (by rfl) ?_
    refine comp_eval (by rfl) (by decide) rfl (by decide) ?_
    k_steps
    rename Fr _ _ _ _ => F1
    rename News _ _ _ _ => N1
    refine src_list (items := yss) hA.hd F1 N1 (lis_at N1 (by k_mem)) (le8 (hysl ▸ h8)) (fun i ys => Paired IntV (((symsOf cs).take i).filter fun z => decide (z < 256)) ys) (fun _ _ _ _ _ _ _ _ => lot_name) .nil
      (fun base C I D io i v h tk m₁ ys ep' hv hJ hID up F₁ N₁ => ?_) fun Db h' tk ysb epb hJb F₁ N₁ hk hDb => ?_
    · obtain ⟨z, hzi, t, rfl⟩ := Paired.at' i hJs hv
      have G₂ := GB.keeps up
      clear T X F1 N1
      obtain ⟨p, loose, mg, mb, T⟩ := G₂.t
      have X := G₂.k
      unfold CompTurn
      k_steps
      refine askIfs_one ?_
      k_steps
      (any_goals (first | exact ("" : PySem.Str) | exact (0 : Nat) | exact PySem.Value.none | exact ([] : List (PySem.Str × PySem.Addr)) | skip))
      · rename _ < (256 : Int) => hlt
        rw [List.take_add_one, hzi, List.filter_append]
        have : [z].filter (fun z => decide (z < 256)) = [z] := by rw [List.filter_cons, if_pos (by simpa using hlt)]; rfl
        simp only [Option.toList_some, this, List.append_nil]
        exact hJ.snoc ⟨_, rfl⟩
      · exact ⟨_, _, _, rfl, (by assumption), (by assumption)⟩
      · rename ¬ _ < (256 : Int) => hlt
        rw [List.take_add_one, hzi, List.filter_append]
        have : [z].filter (fun z => decide (z < 256)) = [] := by rw [List.filter_cons, if_neg (by simpa using hlt)]; rfl
        simp only [Option.toList_some, this, List.append_nil]
        exact hJ
      · exact ⟨_, _, _, rfl, (by assumption), (by assumption)⟩
    · have hDb1 : Db ≠ Lt + 1 + 1 := fun q => by
        have := (N1 (Lt + 1 + 1, o1) (by simp)).1
        rw [← q, show _ = none from hDb] at this; cases this
      have hDb2 : Db ≠ Lt + 1 := fun q => by
        have := (N1 (Lt + 1, o2) (by simp)).1
        rw [← q, show _ = none from hDb] at this; cases this
      clear F1 N1
      rw [← hJs.length, List.take_length] at hJb
      k_steps
      refine comp_store (by rfl) (by rfl) (by decide) rfl (by decide) (by rfl) (by rfl) ?_
      k_steps
      rename Fr _ _ _ _ => F1
      rename News _ _ _ _ => N1
      simp only [List.cons_append, List.nil_append] at N1
      refine src_list (items := yss) hA.hd F1 N1 (lis_at N1 (by k_mem)) (le8 (hysl ▸ h8)) (fun i ys => Paired IntV (((symsOf cs).take i).filter fun z => decide (z ≥ 256)) ys) (fun _ _ _ _ _ _ _ _ => lot_name) .nil
        (fun base C I D io i v h tk m₁ ys ep' hv hJ hID up F₁ N₁ => ?_) fun Do h' tk yso epo hJo F₁ N₁ hk hDo => ?_
      · obtain ⟨z, hzi, t, rfl⟩ := Paired.at' i hJs hv
        have G₂ := GB.keeps up
        clear T X F1 N1
        obtain ⟨p, loose, mg, mb, T⟩ := G₂.t
        have X := G₂.k
        unfold CompTurn
        k_steps
        refine askIfs_one ?_
        k_steps
        (any_goals (first | exact ("" : PySem.Str) | exact (0 : Nat) | exact PySem.Value.none | exact ([] : List (PySem.Str × PySem.Addr)) | skip))
        · rename _ ≥ (256 : Int) => hlt
          rw [List.take_add_one, hzi, List.filter_append]
          have : [z].filter (fun z => decide (z ≥ 256)) = [z] := by rw [List.filter_cons, if_pos (by simpa using hlt)]; rfl
          simp only [Option.toList_some, this, List.append_nil]
          exact hJ.snoc ⟨_, rfl⟩
        · exact ⟨_, _, _, rfl, (by assumption), (by assumption)⟩
        · rename ¬ _ ≥ (256 : Int) => hlt
          rw [List.take_add_one, hzi, List.filter_append]
          have : [z].filter (fun z => decide (z ≥ 256)) = [] := by rw [List.filter_cons, if_neg (by simpa using hlt)]; rfl
          simp only [Option.toList_some, this, List.append_nil]
          exact hJ
        · exact ⟨_, _, _, rfl, (by assumption), (by assumption)⟩
      · refine ⟨⟨_, F₁.ns⟩, Store.of F₁ N₁ fun h₃ tk₃ F₃ N₃ => ?_⟩
        clear F1 N1 F₁ N₁
        rw [← hJs.length, List.take_length] at hJo
        have hbl : ysb.length = (belowOf cs).length := hJb.length.symm
        have hol : yso.length = (othersOf cs).length := hJo.length.symm
        have hb8 : (belowOf cs).length ≤ 8 := Nat.le_trans (List.length_filter_le _ _) (by omega)
        have ho8 : (othersOf cs).length ≤ 8 := Nat.le_trans (List.length_filter_le _ _) (by omega)
        k_steps
        rename News _ _ _ _ => N1
        rename Fr _ _ _ _ => F1
        refine krv_lit (s := ⟨_, _, _, _, _⟩) (its := List.toArray ysb) (zs := ysb.reverse) F1 N1 (lis_at N1 (by k_mem)) (.int _ _) (by simp) (fun Dr h4 F4 N4 lr => ?_) (by with_unfolding_all rfl) (by intro _; with_unfolding_all rfl) (le16 (by rw [List.size_toArray]; omega))
        clear F1 N1
        k_steps
        refine kmk_add_lit (s := ⟨_, _, _, _, _⟩) (a := Dr) (b := Do) (its := ysb.reverse.toArray) (its2 := List.toArray yso) (zs := ysb.reverse ++ yso) F4 N4 (lis_at (n := 0) N4 (by simp)) (lis_at (n := epo) N4 (by simp)) rfl (fun Da h5 F5 N5 la => ?_) (le16 (by simp only [List.length_reverse]; omega))
        clear F4 N4
        k_steps
        refine comp_eval (by rfl) (by decide) rfl (by decide) ?_
        k_steps
        rename Fr _ _ _ _ => F1
        rename News _ _ _ _ => N1
        rename IsRange _ _ _ _ _ _ _ _ => hR
        refine src_range (n := cs.length) hA.hd F1 N1 hR (rng0_ok h8).1 (rng0_ok h8).2 (le8 h8) (fun i ys => Paired IntV ((List.range i).map fun (k : Nat) => 256 - ((belowOf cs).length : Int) + (k : Int)) ys) .nil (fun base C I D io i v h tk m₁ ys ep t hi hv hJ hID up F₂ N₂ => ?_) fun Dk h' tk ysk epk hJk F₂ N₂ hk hDk => ?_
        · have G₂ := GB.keeps up
          clear T X F1 N1
          obtain ⟨p, loose, mg, mb, T⟩ := G₂.t
          have X := G₂.k
          unfold CompTurn
          rw [Int.zero_add] at hv
          subst hv
          k_steps
          refine askIfs_nil ?_
          rw [if_pos rfl]
          k_steps
          (any_goals (first | exact ("" : PySem.Str) | exact (0 : Nat) | exact PySem.Value.none | exact ([] : List (PySem.Str × PySem.Addr)) | skip))
          · show Paired _ _ _
            rw [List.range_succ, List.map_append]
            exact hJ.snoc ⟨_, rfl⟩
          · exact ⟨_, _, _, rfl, (by assumption), (by assumption)⟩
        · clear F1 N1
          refine eq_lists (R := IntV) (xs := (belowOf cs).reverse ++ othersOf cs) (ys := (List.range cs.length).map fun (k : Nat) => 256 - ((belowOf cs).length : Int) + (k : Int)) (vs := ysb.reverse ++ yso) (ws := ysk) (Paired.append' (Paired.reverse' hJb) hJo) hJk (fun A' a b v w _ _ => eqv_int A' _ a b v w) (lis_at N₂ (by k_mem)) (lis_at N₂ (by k_mem)) (hun _) ?_
          k_steps
          refine ret _ _ (fun b o e => ?_)
          by_cases q : b = fl
          · rw [q] at e ⊢
            rw [hn] at e; cases e
            exact (N₂ (fl, listOf fvs.toArray epf) (by simp)).1
          · refine F₂.keep b o ?_
            rw [← hBB]
            exact hideAll_get _ e (by simpa using q)
end
end Mine
end
section
namespace Mine
/-- the cards of a row go on at the lower or at the upper end of what lies -/
def Grow : Nat → Nat → List Nat → Prop
  | _, _, [] => True
  | lo, hi, x :: xs => (x + 1 = lo ∧ Grow x hi xs) ∨ (x = hi + 1 ∧ Grow lo x xs)
def maxL (l : List Nat) : Nat := l.foldl max (l.headD 0)
def minL (l : List Nat) : Nat := l.foldl min (l.headD 0)

/-- prefixes that are full -/
theorem span_all : ∀ (xs : List Nat) (d lo hi : Nat), hi = lo + d →
    ((∀ k, 1 ≤ k → k ≤ xs.length → ((((xs.take k).foldl max hi : Nat) : Int) - (((xs.take k).foldl min lo : Nat) : Int)) = (d : Int) + (k : Int)) ↔ Grow lo hi xs)
  | [], d, lo, hi, _ => by simp [Grow]; intro k h1 h2; omega
  | x :: xs, d, lo, hi, hd => by
    have ih := fun lo' hi' h => span_all xs (d + 1) lo' hi' h
    constructor
    · intro h
      have h1 := h 1 (Nat.le_refl _) (by simp)
      simp only [List.take_succ_cons, List.take_zero, List.foldl_cons, List.foldl_nil] at h1
      have rest : ∀ k, 1 ≤ k → k ≤ xs.length → ((((xs.take k).foldl max (max hi x) : Nat) : Int) - (((xs.take k).foldl min (min lo x) : Nat) : Int)) = ((d + 1 : Nat) : Int) + (k : Int) := fun k a b => by
        have := h (k + 1) (by omega) (by simp; omega)
        simp only [List.take_succ_cons, List.foldl_cons] at this
        rw [this]; omega
      by_cases q : x + 1 = lo
      · left
        refine ⟨q, (ih x hi (by omega)).mp ?_⟩
        rwa [show max hi x = hi by omega, show min lo x = x by omega] at rest
      · right
        have e : x = hi + 1 := by omega
        refine ⟨e, (ih lo x (by omega)).mp ?_⟩
        rwa [show max hi x = x by omega, show min lo x = lo by omega] at rest
    · intro h k h1 h2
      obtain ⟨k, rfl⟩ : ∃ k', k = k' + 1 := ⟨k - 1, by omega⟩
      simp only [List.take_succ_cons, List.foldl_cons]
      have hk : k ≤ xs.length := by simpa using h2
      rcases h with ⟨q, g⟩ | ⟨q, g⟩
      · rw [show max hi x = hi by omega, show min lo x = x by omega]
        by_cases k0 : k = 0
        · subst k0; simp; omega
        · rw [(ih x hi (by omega)).mpr g k (by omega) hk]; omega
      · rw [show max hi x = x by omega, show min lo x = lo by omega]
        by_cases k0 : k = 0
        · subst k0; simp; omega
        · rw [(ih lo x (by omega)).mpr g k (by omega) hk]; omega

/-- a grown row's prefixes -/
theorem grow_pre : ∀ (xs p : List Nat) (lo hi : Nat), Grow lo hi xs → (∀ z, z ∈ p ↔ lo ≤ z ∧ z ≤ hi) → hi + 1 = lo + p.length → ∀ k, k ≤ xs.length →
    ∃ lo' hi', (∀ z, z ∈ p ++ xs.take k ↔ lo' ≤ z ∧ z ≤ hi') ∧ hi' + 1 = lo' + (p.length + k)
  | xs, p, lo, hi, _, hp, hl, 0, _ => ⟨lo, hi, by simpa using hp, by simpa using hl⟩
  | [], _, _, _, _, _, _, k + 1, h => by simp at h
  | x :: xs, p, lo, hi, g, hp, hl, k + 1, h => by
    have hk : k ≤ xs.length := by simpa using h
    rcases g with ⟨q, g⟩ | ⟨q, g⟩
    · obtain ⟨a, b, h1, h2⟩ := grow_pre xs (p ++ [x]) x hi g (fun z => by rw [List.mem_append, hp]; simp; omega) (by simp; omega) k hk
      refine ⟨a, b, fun z => ?_, by simp at h2; omega⟩
      rw [← h1]; simp
    · obtain ⟨a, b, h1, h2⟩ := grow_pre xs (p ++ [x]) lo x g (fun z => by rw [List.mem_append, hp]; simp; omega) (by simp; omega) k hk
      refine ⟨a, b, fun z => ?_, by simp at h2; omega⟩
      rw [← h1]; simp

/-- each group of a size has each remainder just once -/
def Apart (s : Nat) (l : List Nat) : Prop := l.Pairwise fun a b => a % s ≠ b % s
def pieceN (cs : List Nat) (size k : Nat) : List Nat := (cs.drop (k * size)).take size

theorem grow_of (n : Nat) : ∀ (xs p : List Nat) (lo hi : Nat), (∀ z, z ∈ p ↔ lo ≤ z ∧ z ≤ hi) → hi + 1 = lo + p.length → 1 ≤ p.length → (p ++ xs).Nodup → (∀ z ∈ p ++ xs, z < n) → (p ++ xs).length = n →
    (∀ s, 2 ≤ s → s ≤ n → Apart s ((p ++ xs).take s)) → Grow lo hi xs
  | [], _, _, _, _, _, _, _, _, _, _ => trivial
  | x :: xs, p, lo, hi, hp, hl, h1, hnd, hlt, hn, hA => by
    have e : p ++ x :: xs = (p ++ [x]) ++ xs := by simp
    have hx : x ∉ p := fun q => (List.nodup_append.mp hnd).2.2 x q x (.head _) rfl
    have hxn : x < n := hlt x (by simp)
    have hlo : lo ∈ p := (hp lo).mpr (by omega)
    have hhi : hi ∈ p := (hp hi).mpr (by omega)
    have clash : ∀ a ∈ p, ∀ d, 2 ≤ d → d ≤ n → p.length + 1 ≤ d → a % d ≠ x % d := fun a ha d h2 hdn hd => by
      have := hA d h2 hdn
      rw [e, List.take_append, List.take_of_length_le (by simpa using hd)] at this
      have := (List.pairwise_append.mp ((List.pairwise_append.mp this).1)).2.2 a ha x (.head _)
      exact this
    have hno : ¬ (lo ≤ x ∧ x ≤ hi) := fun q => hx ((hp x).mpr q)
    have hlon : lo < n := hlt lo (by simp [hlo])
    have hhin : hi < n := hlt hi (by simp [hhi])
    rcases Nat.lt_or_ge x lo with hxl | hxl
    · left
      have q : x + 1 = lo := by
        apply Classical.byContradiction
        intro q
        refine clash hi hhi (hi - x) (by omega) (by omega) (by omega) ?_
        have := Nat.add_mod_right x (hi - x)
        rwa [show x + (hi - x) = hi by omega] at this
      refine ⟨q, grow_of n xs (p ++ [x]) x hi (fun z => by rw [List.mem_append, hp]; simp; omega) (by simp; omega) (by simp) (e ▸ hnd) (e ▸ hlt) (e ▸ hn) (e ▸ hA)⟩
    · right
      have q : x = hi + 1 := by
        apply Classical.byContradiction
        intro q
        refine clash lo hlo (x - lo) (by omega) (by omega) (by omega) ?_
        have := Nat.add_mod_right lo (x - lo)
        rw [show lo + (x - lo) = x by omega] at this
        exact this.symm
      refine ⟨q, grow_of n xs (p ++ [x]) lo x (fun z => by rw [List.mem_append, hp]; simp; omega) (by simp; omega) (by simp) (e ▸ hnd) (e ▸ hlt) (e ▸ hn) (e ▸ hA)⟩

theorem apart_of_mem {s : Nat} : ∀ {l : List Nat}, l.Nodup → (∀ a ∈ l, ∀ b ∈ l, a < b → a % s ≠ b % s) → Apart s l
  | [], _, _ => .nil
  | x :: l, hnd, h => by
    have hnd' := List.nodup_cons.mp hnd
    refine .cons (fun b hb => ?_) (apart_of_mem hnd'.2 fun a ha b hb => h a (.tail _ ha) b (.tail _ hb))
    rcases Nat.lt_trichotomy x b with q | q | q
    · exact h x (.head _) b (.tail _ hb) q
    · exact absurd (q ▸ hb) hnd'.1
    · exact (h b (.tail _ hb) x (.head _) q).symm

theorem mod_far {s a b : Nat} (hab : a < b) (h : a % s = b % s) : ∃ c, 1 ≤ c ∧ b = a + c * s := by
  have h1 := Nat.div_add_mod a s
  have h2 := Nat.div_add_mod b s
  have h3 : a / s < b / s := by
    apply Classical.byContradiction
    intro q
    have : s * (b / s) ≤ s * (a / s) := Nat.mul_le_mul_left _ (by omega)
    omega
  refine ⟨b / s - a / s, by omega, ?_⟩
  rw [Nat.sub_mul, Nat.mul_comm (b / s), Nat.mul_comm (a / s)]
  have : s * (a / s) ≤ s * (b / s) := Nat.mul_le_mul_left _ (by omega)
  omega

/-- a grown row: all groups of all sizes -/
theorem apart_of_grow {r0 : Nat} {xs : List Nat} (hnd : (r0 :: xs).Nodup) (g : Grow r0 r0 xs) {s i : Nat} (hs : 1 ≤ s) (hi : (i + 1) * s ≤ (r0 :: xs).length) : Apart s (pieceN (r0 :: xs) s i) := by
  have pre : ∀ k, 1 ≤ k → k ≤ (r0 :: xs).length → ∃ lo hi, (∀ z, z ∈ (r0 :: xs).take k ↔ lo ≤ z ∧ z ≤ hi) ∧ hi + 1 = lo + k := fun k h1 h2 => by
    obtain ⟨k, rfl⟩ : ∃ k', k = k' + 1 := ⟨k - 1, by omega⟩
    obtain ⟨a, b, h3, h4⟩ := grow_pre xs [r0] r0 r0 g (fun z => by simp; omega) (by simp) k (by simpa using h2)
    exact ⟨a, b, by simpa using h3, by simp at h4; omega⟩
  have hpn : (pieceN (r0 :: xs) s i).Nodup := (List.take_sublist _ _).nodup ((List.drop_sublist _ _).nodup hnd)
  have hB : ∀ z ∈ pieceN (r0 :: xs) s i, z ∈ (r0 :: xs).take ((i + 1) * s) := fun z hz => by
    unfold pieceN at hz
    rw [List.take_drop] at hz
    have := List.mem_of_mem_drop hz
    rwa [show i * s + s = (i + 1) * s by rw [Nat.succ_mul]] at this
  have hA : ∀ z ∈ pieceN (r0 :: xs) s i, z ∉ (r0 :: xs).take (i * s) := fun z hz q => by
    have := List.take_append_drop (i * s) (r0 :: xs)
    rw [← this] at hnd
    exact (List.nodup_append.mp hnd).2.2 z q z (List.mem_of_mem_take hz) rfl
  have hss : (i + 1) * s = i * s + s := Nat.succ_mul ..
  obtain ⟨lo, hi', hb, hbl⟩ := pre ((i + 1) * s) (by omega) hi
  refine apart_of_mem hpn fun a ha b hb' hab hm => ?_
  have ha1 := (hb a).mp (hB a ha)
  have hb1 := (hb b).mp (hB b hb')
  obtain ⟨c, hc1, hc⟩ := mod_far hab hm
  have hcs : s ≤ c * s := Nat.le_mul_of_pos_left s (by omega)
  rcases Nat.eq_zero_or_pos i with rfl | hi0
  · omega
  · have hs1 : s ≤ i * s := Nat.le_mul_of_pos_left s hi0
    obtain ⟨lo2, hi2, hb2, hbl2⟩ := pre (i * s) (by omega) (by omega)
    have sub : ∀ z, lo2 ≤ z → z ≤ hi2 → lo ≤ z ∧ z ≤ hi' := fun z h1 h2 => (hb z).mp (by
      have := (hb2 z).mpr ⟨h1, h2⟩
      exact (List.take_sublist_take_left (by omega)).subset this)
    have s1 := sub lo2 (Nat.le_refl _) (by omega)
    have s2 := sub hi2 (by omega) (Nat.le_refl _)
    have na : ¬ (lo2 ≤ a ∧ a ≤ hi2) := fun q => hA a ha ((hb2 a).mpr q)
    have nb : ¬ (lo2 ≤ b ∧ b ≤ hi2) := fun q => hA b hb' ((hb2 b).mpr q)
    rcases Nat.lt_or_ge a lo2 with h1 | h1
    · rcases Nat.lt_or_ge b lo2 with h2 | h2
      · omega
      · -- on both sides
        have h3 : hi2 < b := by omega
        have : i < c := by
          apply Classical.byContradiction
          intro q
          have : c * s ≤ i * s := Nat.mul_le_mul_right _ (by omega)
          omega
        have : (i + 1) * s ≤ c * s := Nat.mul_le_mul_right _ this
        omega
    · omega
/-- going down, going up -/
def Desc : Nat → List Nat → Prop
  | _, [] => True
  | lo, x :: xs => x + 1 = lo ∧ Desc x xs
def Asc : Nat → List Nat → Prop
  | _, [] => True
  | hi, x :: xs => x = hi + 1 ∧ Asc x xs
theorem grow_split {r0 : Nat} : ∀ (xs : List Nat) (lo hi : Nat), lo ≤ r0 → r0 ≤ hi → (Grow lo hi xs ↔ Desc lo (xs.filter fun c => decide (c < r0)) ∧ Asc hi (xs.filter fun c => decide (r0 ≤ c)))
  | [], _, _, _, _ => by simp [Grow, Desc, Asc]
  | x :: xs, lo, hi, h1, h2 => by
    by_cases q : x < r0
    · rw [List.filter_cons_of_pos (by simpa using q), List.filter_cons_of_neg (by simpa using q)]
      simp only [Grow, Desc]
      constructor
      · rintro (⟨a, g⟩ | ⟨a, _⟩)
        · have := (grow_split xs x hi (by omega) h2).mp g
          exact ⟨⟨a, this.1⟩, this.2⟩
        · omega
      · rintro ⟨⟨a, d⟩, b⟩
        exact .inl ⟨a, (grow_split xs x hi (by omega) h2).mpr ⟨d, b⟩⟩
    · rw [List.filter_cons_of_neg (by simpa using q), List.filter_cons_of_pos (by simpa using q)]
      simp only [Grow, Asc]
      constructor
      · rintro (⟨a, _⟩ | ⟨a, g⟩)
        · omega
        · have := (grow_split xs lo x h1 (by omega)).mp g
          exact ⟨this.1, a, this.2⟩
      · rintro ⟨b, a, d⟩
        exact .inr ⟨a, (grow_split xs lo x h1 (by omega)).mpr ⟨b, d⟩⟩
theorem desc_iff : ∀ (l : List Nat) (lo : Nat), Desc lo l ↔ ∀ i (h : i < l.length), l[i] + i + 1 = lo
  | [], _ => by simp [Desc]
  | x :: l, lo => by
    simp only [Desc]
    rw [desc_iff l x]
    constructor
    · rintro ⟨a, b⟩ i h
      cases i with
      | zero => simpa using a
      | succ i =>
        have := b i (by simpa using h)
        simp only [List.getElem_cons_succ]
        omega
    · intro h
      have h0 := h 0 (by simp)
      simp only [List.getElem_cons_zero] at h0
      refine ⟨by omega, fun i hi => ?_⟩
      have := h (i + 1) (by simpa using hi)
      simp only [List.getElem_cons_succ] at this
      omega
theorem asc_iff : ∀ (l : List Nat) (hi : Nat), Asc hi l ↔ ∀ i (h : i < l.length), l[i] = hi + 1 + i
  | [], _ => by simp [Asc]
  | x :: l, hi => by
    simp only [Asc]
    rw [asc_iff l x]
    constructor
    · rintro ⟨a, b⟩ i h
      cases i with
      | zero => simpa using a
      | succ i =>
        have := b i (by simpa using h)
        simp only [List.getElem_cons_succ]
        omega
    · intro h
      have h0 := h 0 (by simp)
      simp only [List.getElem_cons_zero] at h0
      refine ⟨by omega, fun i hi => ?_⟩
      have := h (i + 1) (by simpa using hi)
      simp only [List.getElem_cons_succ] at this
      omega
/-- the list that a row is laid out to -/
theorem laid_iff {r0 n : Nat} {b o : List Nat} {f : Nat → Int} (hf : ∀ c, f c = 256 + (c : Int) - (r0 : Int)) (hn : b.length + (o.length + 1) = n) :
    ((b.map f).reverse ++ (r0 :: o).map f = (List.range n).map fun (k : Nat) => 256 - ((b.map f).length : Int) + (k : Int)) ↔ Desc r0 b ∧ Asc r0 o := by
  rw [desc_iff, asc_iff, List.length_map]
  constructor
  · intro h
    have at' : ∀ k (hk : k < n), ((b.map f).reverse ++ (r0 :: o).map f)[k]? = some (256 - (b.length : Int) + (k : Int)) := fun k hk => by
      rw [h]; simp [hk]
    constructor
    · intro i hi
      have := at' (b.length - 1 - i) (by omega)
      rw [List.getElem?_append_left (by simp; omega), List.getElem?_reverse (by simp; omega)] at this
      simp only [List.length_map, List.getElem?_map] at this
      rw [show b.length - 1 - (b.length - 1 - i) = i by omega, List.getElem?_eq_getElem hi] at this
      simp only [Option.map_some, Option.some.injEq, hf] at this
      omega
    · intro i hi
      have := at' (b.length + (i + 1)) (by omega)
      rw [List.getElem?_append_right (by simp)] at this
      simp only [List.length_reverse, List.length_map, List.getElem?_map] at this
      rw [show b.length + (i + 1) - b.length = i + 1 by omega, List.getElem?_cons_succ, List.getElem?_eq_getElem hi] at this
      simp only [Option.map_some, Option.some.injEq, hf] at this
      omega
  · rintro ⟨h1, h2⟩
    apply List.ext_getElem
    · simp; omega
    · intro k hk hk'
      have hkn : k < n := by simpa using hk'
      simp only [List.getElem_map, List.getElem_range]
      by_cases q : k < b.length
      · rw [List.getElem_append_left (by simpa using q)]
        simp only [List.getElem_reverse, List.getElem_map, List.length_map, hf]
        have := h1 (b.length - 1 - k) (by omega)
        omega
      · rw [List.getElem_append_right (by simpa using q)]
        simp only [List.length_reverse, List.length_map]
        by_cases q0 : k = b.length
        · subst q0
          simp [hf]
        · obtain ⟨i, rfl⟩ : ∃ i, k = b.length + (i + 1) := ⟨k - b.length - 1, by omega⟩
          have hi : i < o.length := by omega
          have := h2 i hi
          simp only [show b.length + (i + 1) - b.length = i + 1 by omega, List.map_cons, List.getElem_cons_succ, List.getElem_map, hf]
          omega
end Mine
end
section
open PySem PySem.W PySem.Calls PyProof.Rows
set_option maxRecDepth 100000
namespace Mine
theorem findK_none {j : Nat} : ∀ {kvs : List KV}, findK j kvs = none ↔ ∀ k ∈ kvs, k.j ≠ j
  | [] => by simp [findK]
  | k :: r => by
    unfold findK
    by_cases q : k.j = j
    · rw [if_pos q]; simp [q]
    · rw [if_neg q, findK_none]; simp [q]
theorem findK_some {j c : Nat} : ∀ {kvs : List KV}, findK j kvs = some c → ∃ k ∈ kvs, k.c = c
  | [], h => by cases h
  | k :: r, h => by
    unfold findK at h
    by_cases q : k.j = j
    · rw [if_pos q] at h; exact ⟨k, .head _, Option.some.inj h⟩
    · rw [if_neg q] at h
      obtain ⟨k', hk, e⟩ := findK_some h
      exact ⟨k', .tail _ hk, e⟩
def keyOf (size t c : Nat) : Nat := (kvOf size t c).j
/-- the letters of a group are all new -/
def Fresh (size t : Nat) (g : List Nat) : Prop := g.Pairwise fun a b => keyOf size t a ≠ keyOf size t b
theorem dealt_is (size t : Nat) (g : List Nat) (hnd : g.Nodup) : ((dealt size t g).2 = g ↔ Fresh size t g) ∧ ((dealt size t g).1.map (·.c) = g ↔ Fresh size t g) ∧ (∀ k ∈ (dealt size t g).1, k.c ∈ g) ∧ (∀ j, (∃ k ∈ (dealt size t g).1, k.j = j) ↔ ∃ c ∈ g, keyOf size t c = j) := by
  suffices h : ∀ r : List Nat, r.reverse.Nodup → ((dealt size t r.reverse).2 = r.reverse ↔ Fresh size t r.reverse) ∧ ((dealt size t r.reverse).1.map (·.c) = r.reverse ↔ Fresh size t r.reverse) ∧ (∀ k ∈ (dealt size t r.reverse).1, k.c ∈ r.reverse) ∧ (∀ j, (∃ k ∈ (dealt size t r.reverse).1, k.j = j) ↔ ∃ c ∈ r.reverse, keyOf size t c = j) by
    have := h g.reverse (by simpa using hnd)
    simpa using this
  intro r
  induction r with
  | nil => intro _; simp [dealt, Fresh]
  | cons c r ih =>
    intro hnd
    rw [List.reverse_cons] at hnd ⊢
    have hnd' := List.nodup_append.mp hnd
    obtain ⟨i1, i2, i3, i4⟩ := ih hnd'.1
    have hc : c ∉ r.reverse := fun q => hnd'.2.2 c q c (.head _) rfl
    have hl := dealt_len size t r.reverse
    have hF : Fresh size t (r.reverse ++ [c]) ↔ Fresh size t r.reverse ∧ ∀ a ∈ r.reverse, keyOf size t a ≠ keyOf size t c := by
      unfold Fresh
      rw [List.pairwise_append]
      simp
    rw [dealt_snoc]
    generalize hd : dealt size t r.reverse = d at *
    obtain ⟨kvs, gv⟩ := d
    generalize hg : r.reverse = g at *
    dsimp only at i1 i2 i3 i4 hl
    rw [hF]
    unfold deal lay
    cases hf : findK (kvOf size t c).j kvs with
    | none =>
      have hno : ∀ a ∈ g, keyOf size t a ≠ keyOf size t c := fun a ha q => by
        obtain ⟨k, hk, e⟩ := (i4 (keyOf size t c)).mpr ⟨a, ha, q⟩
        exact findK_none.mp hf k hk e
      dsimp only
      refine ⟨?_, ?_, ?_, ?_⟩
      · rw [← i1]
        constructor
        · intro e
          exact ⟨(List.append_inj e (by simpa using hl.2)).1, hno⟩
        · rintro ⟨e, -⟩; rw [e]; rfl
      · rw [← i2, List.map_append]
        constructor
        · intro e
          exact ⟨(List.append_inj' e rfl).1, hno⟩
        · rintro ⟨e, -⟩; rw [e]; rfl
      · intro k hk
        rcases List.mem_append.mp hk with hk | hk
        · exact List.mem_append_left _ (i3 k hk)
        · rw [List.mem_singleton.mp hk]; simp [kvOf]
      · intro j
        constructor
        · rintro ⟨k, hk, e⟩
          rcases List.mem_append.mp hk with hk | hk
          · obtain ⟨a, ha, e⟩ := (i4 j).mp ⟨k, hk, e⟩
            exact ⟨a, List.mem_append_left _ ha, e⟩
          · rw [List.mem_singleton.mp hk] at e
            exact ⟨c, by simp, e⟩
        · rintro ⟨a, ha, e⟩
          rcases List.mem_append.mp ha with ha | ha
          · obtain ⟨k, hk, e⟩ := (i4 j).mpr ⟨a, ha, e⟩
            exact ⟨k, List.mem_append_left _ hk, e⟩
          · rw [List.mem_singleton.mp ha] at e
            exact ⟨kvOf size t c, by simp, e⟩
    | some c' =>
      have hex : ∃ k ∈ kvs, k.j = (kvOf size t c).j := by
        apply Classical.byContradiction
        intro q
        have := findK_none.mpr fun k hk e => q ⟨k, hk, e⟩
        rw [hf] at this; cases this
      obtain ⟨a, ha, hak⟩ := (i4 _).mp hex
      have hyes : ¬ ∀ a ∈ g, keyOf size t a ≠ keyOf size t c := fun q => q a ha hak
      obtain ⟨k', hk', rfl⟩ := findK_some hf
      dsimp only
      refine ⟨?_, ?_, fun k hk => List.mem_append_left _ (i3 k hk), ?_⟩
      · refine ⟨fun e => ?_, fun e => absurd e.2 hyes⟩
        have := (List.append_inj' e rfl).2
        rw [List.cons.injEq] at this
        exact absurd (this.1 ▸ i3 k' hk') hc
      · refine ⟨fun e => ?_, fun e => absurd e.2 hyes⟩
        have := congrArg List.length e
        simp at this
        omega
      · intro j
        rw [i4 j]
        constructor
        · rintro ⟨a, ha, e⟩; exact ⟨a, List.mem_append_left _ ha, e⟩
        · rintro ⟨b, hb, e⟩
          rcases List.mem_append.mp hb with hb | hb
          · exact ⟨b, hb, e⟩
          · rw [List.mem_singleton.mp hb] at e
            exact ⟨a, ha, by rw [hak]; exact e⟩
theorem key_row {size st r0 a b : Nat} (hs : 1 ≤ size) : keyOf size (st + r0) (st + a) ≠ keyOf size (st + r0) (st + b) ↔ a % size ≠ b % size := by
  unfold keyOf kvOf symN
  dsimp only
  have h1 := Int.emod_nonneg (256 + (14 + ((st + a : Nat) : Int)) - (14 + ((st + r0 : Nat) : Int))) (show (size : Int) ≠ 0 by omega)
  have h2 := Int.emod_nonneg (256 + (14 + ((st + b : Nat) : Int)) - (14 + ((st + r0 : Nat) : Int))) (show (size : Int) ≠ 0 by omega)
  have e : ((256 + (14 + ((st + a : Nat) : Int)) - (14 + ((st + r0 : Nat) : Int))) % (size : Int)).toNat = ((256 + (14 + ((st + b : Nat) : Int)) - (14 + ((st + r0 : Nat) : Int))) % (size : Int)).toNat ↔ a % size = b % size := by
    have e1 : 256 + (14 + ((st + a : Nat) : Int)) - (14 + ((st + r0 : Nat) : Int)) = (a : Int) + (256 - (r0 : Int)) := by omega
    have e2 : 256 + (14 + ((st + b : Nat) : Int)) - (14 + ((st + r0 : Nat) : Int)) = (b : Int) + (256 - (r0 : Int)) := by omega
    rw [e1] at h1 ⊢
    rw [e2] at h2 ⊢
    have : (a % size = b % size) ↔ ((a : Int) % (size : Int) = (b : Int) % (size : Int)) := by omega
    rw [this]
    constructor
    · intro h
      have h3 : ((a : Int) + (256 - (r0 : Int))) % (size : Int) = ((b : Int) + (256 - (r0 : Int))) % (size : Int) := by omega
      exact Int.emod_add_cancel_right _ |>.mp h3
    · intro h
      rw [(Int.emod_add_cancel_right _).mpr h]
  exact not_congr e
theorem fresh_map {size st r0 : Nat} (hs : 1 ≤ size) (g : List Nat) : Fresh size (st + r0) (g.map (st + ·)) ↔ Apart size g := by
  unfold Fresh Apart
  rw [List.pairwise_map]
  constructor
  · exact fun h => h.imp fun q => (key_row hs).mp q
  · exact fun h => h.imp fun q => (key_row hs).mpr q
theorem piece_map {st : Nat} (row : List Nat) (size k : Nat) : piece (row.map (st + ·)) size k = (pieceN row size k).map (st + ·) := by
  unfold piece pieceN
  rw [← List.map_drop, ← List.map_take]
def wholeOf (cs : List Nat) : List Bool := (tabsUpTo cs (cs.length - 1)).map fun r => decide (r.given = r.group)
def keptOf (cs : List Nat) : List Bool := (tabsUpTo cs (cs.length - 1)).map fun r => decide (r.held = r.group)
def toldOf (n : Nat) : List Nat := (List.range (n - 1)).flatMap fun j => List.replicate (n / (2 + j)) (2 + j)
theorem told_is (cs : List Nat) : (tabsUpTo cs (cs.length - 1)).map (·.size) = toldOf cs.length := by
  unfold tabsUpTo toldOf
  rw [List.map_flatMap]
  congr 1
  funext j
  unfold tabsFor
  rw [List.map_map]
  have : ((fun r : Tab => r.size) ∘ fun i => tabOf (2 + j) (cs.headD 0) (piece cs (2 + j) i)) = fun _ => 2 + j := rfl
  rw [this, List.map_const', List.length_range]
theorem tab_mem {cs : List Nat} {r : Tab} (h : r ∈ tabsUpTo cs (cs.length - 1)) : ∃ j i, j < cs.length - 1 ∧ i < cs.length / (2 + j) ∧ r = tabOf (2 + j) (cs.headD 0) (piece cs (2 + j) i) := by
  unfold tabsUpTo tabsFor at h
  obtain ⟨j, hj, h⟩ := List.mem_flatMap.mp h
  obtain ⟨i, hi, rfl⟩ := List.mem_map.mp h
  exact ⟨j, i, List.mem_range.mp hj, List.mem_range.mp hi, rfl⟩
theorem mem_tab {cs : List Nat} {j i : Nat} (hj : j < cs.length - 1) (hi : i < cs.length / (2 + j)) : tabOf (2 + j) (cs.headD 0) (piece cs (2 + j) i) ∈ tabsUpTo cs (cs.length - 1) := by
  unfold tabsUpTo tabsFor
  exact List.mem_flatMap.mpr ⟨j, List.mem_range.mpr hj, List.mem_map.mpr ⟨i, List.mem_range.mpr hi, rfl⟩⟩
theorem whole_kept {cs : List Nat} (hnd : cs.Nodup) : wholeOf cs = keptOf cs := by
  unfold wholeOf keptOf
  apply List.map_congr_left
  intro r hr
  obtain ⟨j, i, -, -, rfl⟩ := tab_mem hr
  have hp : (piece cs (2 + j) i).Nodup := (List.take_sublist _ _).nodup ((List.drop_sublist _ _).nodup hnd)
  obtain ⟨h1, h2, -, -⟩ := dealt_is (2 + j) (cs.headD 0) _ hp
  have e : ((dealt (2 + j) (cs.headD 0) (piece cs (2 + j) i)).2 = piece cs (2 + j) i) ↔ ((dealt (2 + j) (cs.headD 0) (piece cs (2 + j) i)).1.map (·.c) = piece cs (2 + j) i) := h1.trans h2.symm
  exact decide_eq_decide.mpr e
theorem whole_all {st r0 : Nat} {xs : List Nat} (hnd : (r0 :: xs).Nodup) : (!(wholeOf ((r0 :: xs).map (st + ·))).contains false) = true ↔ ∀ j i, j < xs.length → i < (xs.length + 1) / (2 + j) → Apart (2 + j) (pieceN (r0 :: xs) (2 + j) i) := by
  have hl : ((r0 :: xs).map (st + ·)).length = xs.length + 1 := by simp
  have hh : ((r0 :: xs).map (st + ·)).headD 0 = st + r0 := rfl
  have hnd' : ((r0 :: xs).map (st + ·)).Nodup := by
    unfold List.Nodup
    rw [List.pairwise_map]
    exact hnd.imp fun q e => q (by omega)
  have one : ∀ j i, (tabOf (2 + j) (st + r0) (piece ((r0 :: xs).map (st + ·)) (2 + j) i)).given = (tabOf (2 + j) (st + r0) (piece ((r0 :: xs).map (st + ·)) (2 + j) i)).group ↔ Apart (2 + j) (pieceN (r0 :: xs) (2 + j) i) := fun j i => by
    have hp : (piece ((r0 :: xs).map (st + ·)) (2 + j) i).Nodup := (List.take_sublist _ _).nodup ((List.drop_sublist _ _).nodup hnd')
    have h1 := (dealt_is (2 + j) (st + r0) _ hp).1
    rw [piece_map, fresh_map (by omega)] at h1
    rw [piece_map]
    exact h1
  have e : (!(wholeOf ((r0 :: xs).map (st + ·))).contains false) = true ↔ ∀ r ∈ tabsUpTo ((r0 :: xs).map (st + ·)) (((r0 :: xs).map (st + ·)).length - 1), r.given = r.group := by
    unfold wholeOf
    simp only [Bool.not_eq_true', ← Bool.not_eq_true, List.contains_iff_mem, List.mem_map, decide_eq_true_eq, not_exists, not_and, Classical.not_not]
  rw [e]
  constructor
  · intro h j i hj hi
    have := h _ (mem_tab (j := j) (i := i) (by rw [hl]; exact hj) (by rw [hl]; exact hi))
    rw [hh] at this
    exact (one j i).mp this
  · intro h r hr
    obtain ⟨j, i, hj, hi, rfl⟩ := tab_mem hr
    rw [hl] at hj hi
    rw [hh]
    exact (one j i).mpr (h j i hj hi)
theorem whole_grow {st r0 n : Nat} {xs : List Nat} (hp : (r0 :: xs).Perm (List.range n)) : (!(wholeOf ((r0 :: xs).map (st + ·))).contains false) = true ↔ Grow r0 r0 xs := by
  have hnd : (r0 :: xs).Nodup := hp.nodup_iff.mpr List.nodup_range
  have hn : xs.length + 1 = n := by have := hp.length_eq; simpa using this
  rw [whole_all hnd]
  constructor
  · intro h
    refine grow_of n xs [r0] r0 r0 (fun z => by simp; omega) (by simp) (by simp) hnd (fun z hz => List.mem_range.mp (hp.mem_iff.mp hz)) (by simpa using hn) fun s h2 hs => ?_
    have := h (s - 2) 0 (by omega) (by rw [show 2 + (s - 2) = s by omega]; exact Nat.div_pos (by omega) (by omega))
    rw [show 2 + (s - 2) = s by omega] at this
    simpa [pieceN] using this
  · intro g j i hj hi
    refine apart_of_grow hnd g (by omega) ?_
    have := (Nat.le_div_iff_mul_le (by omega : 0 < 2 + j)).mp (Nat.succ_le_of_lt hi)
    simpa using this
def tornOf (n : Nat) (row : List Nat) : List Nat := ((List.range (n - 1)).map fun j => 1 + j).filter fun k => decide (((maxL (row.take (k + 1)) : Nat) : Int) - ((minL (row.take (k + 1)) : Nat) : Int) ≠ (k : Int))
theorem torn_grow {r0 n : Nat} {xs : List Nat} (hn : xs.length + 1 = n) : tornOf n (r0 :: xs) = [] ↔ Grow r0 r0 xs := by
  rw [← span_all xs 0 r0 r0 (by omega)]
  unfold tornOf
  rw [List.filter_eq_nil_iff]
  constructor
  · intro h k h1 h2
    have := h k (List.mem_map.mpr ⟨k - 1, List.mem_range.mpr (by omega), by omega⟩)
    simp only [maxL, minL, List.take_succ_cons, List.headD_cons, List.foldl_cons, Nat.max_self, Nat.min_self] at this
    simp only [decide_eq_true_eq, Classical.not_not] at this
    rw [this]; omega
  · intro h k hk
    obtain ⟨j, hj, rfl⟩ := List.mem_map.mp hk
    have hj' := List.mem_range.mp hj
    have := h (1 + j) (by omega) (by omega)
    simp only [maxL, minL, List.take_succ_cons, List.headD_cons, List.foldl_cons, Nat.max_self, Nat.min_self]
    simp only [decide_eq_true_eq, Classical.not_not]
    rw [this]; omega
end Mine
end
section
open PySem PySem.W PySem.Calls PyProof.Rows
set_option maxRecDepth 100000
namespace Mine
theorem apart_grow {st r0 : Nat} {xs : List Nat} : apartOf ((r0 :: xs).map (st + ·)) = true ↔ Grow r0 r0 xs := by
  have hf : ∀ c, (fun x => symN (st + x) (st + r0)) c = 256 + (c : Int) - (r0 : Int) := fun c => by show symN (st + c) (st + r0) = _; unfold symN; omega
  have hs : symsOf ((r0 :: xs).map (st + ·)) = (r0 :: xs).map (fun x => symN (st + x) (st + r0)) := by
    unfold symsOf
    rw [List.map_map]
    rfl
  have hb : belowOf ((r0 :: xs).map (st + ·)) = (xs.filter fun c => decide (c < r0)).map (fun x => symN (st + x) (st + r0)) := by
    unfold belowOf
    rw [hs, List.filter_map]
    have : (fun z => decide (z < (256 : Int))) ∘ (fun x => symN (st + x) (st + r0)) = fun c => decide (c < r0) := by
      funext c
      show decide (symN (st + c) (st + r0) < 256) = _
      rw [show symN (st + c) (st + r0) = _ from hf c]
      exact decide_eq_decide.mpr (by omega)
    rw [this, List.filter_cons_of_neg (by simp)]
  have ho : othersOf ((r0 :: xs).map (st + ·)) = (r0 :: xs.filter fun c => decide (r0 ≤ c)).map (fun x => symN (st + x) (st + r0)) := by
    unfold othersOf
    rw [hs, List.filter_map]
    have : (fun z => decide (z ≥ (256 : Int))) ∘ (fun x => symN (st + x) (st + r0)) = fun c => decide (r0 ≤ c) := by
      funext c
      show decide (symN (st + c) (st + r0) ≥ 256) = _
      rw [show symN (st + c) (st + r0) = _ from hf c]
      exact decide_eq_decide.mpr (by omega)
    rw [this, List.filter_cons_of_pos (by simp)]
  have hn : (xs.filter fun c => decide (c < r0)).length + ((xs.filter fun c => decide (r0 ≤ c)).length + 1) = ((r0 :: xs).map (st + ·)).length := by
    have : ∀ l : List Nat, (l.filter fun c => decide (c < r0)).length + (l.filter fun c => decide (r0 ≤ c)).length = l.length := by
      intro l
      induction l with
      | nil => rfl
      | cons a l ih =>
        by_cases q : a < r0
        · rw [List.filter_cons_of_pos (by simpa using q), List.filter_cons_of_neg (by simpa using q)]; simp; omega
        · rw [List.filter_cons_of_neg (by simpa using q), List.filter_cons_of_pos (by simpa using q)]; simp; omega
    have := this xs
    simp; omega
  unfold apartOf
  rw [decide_eq_true_iff, hb, ho, laid_iff hf hn, grow_split xs r0 r0 (Nat.le_refl _) (Nat.le_refl _)]
theorem bool_iff {a b : Bool} (h : a = true ↔ b = true) : a = b := by cases a <;> cases b <;> simp_all
/-- the plain law -/
theorem plain {row : List Nat} {n st : Nat} (hp : row.Perm (List.range n)) (h5 : 5 ≤ n) :
    wholeOf (row.map fun x => st + x) = keptOf (row.map fun x => st + x) ∧ (!(wholeOf (row.map fun x => st + x)).contains false) = decide (tornOf n row = []) ∧ apartOf (row.map fun x => st + x) = decide (tornOf n row = []) := by
  have hl := hp.length_eq
  rw [List.length_range] at hl
  cases row with
  | nil => simp at hl; omega
  | cons r0 xs =>
    have hn : xs.length + 1 = n := by simpa using hl
    have hnd : (r0 :: xs).Nodup := hp.nodup_iff.mpr List.nodup_range
    have hnd' : ((r0 :: xs).map (st + ·)).Nodup := by
      unfold List.Nodup
      rw [List.pairwise_map]
      exact hnd.imp fun q e => q (by omega)
    refine ⟨whole_kept hnd', bool_iff ?_, bool_iff ?_⟩
    · rw [decide_eq_true_iff, torn_grow hn, whole_grow hp]
    · rw [decide_eq_true_iff, torn_grow hn, apart_grow]
end Mine
end
section
open PySem PySem.W PySem.Calls PyProof.Rows
set_option maxRecDepth 100000
namespace Mine
theorem foldl_max_ge : ∀ (l : List Nat) (a : Nat), a ≤ l.foldl max a ∧ (∀ x ∈ l, x ≤ l.foldl max a) ∧ (l.foldl max a = a ∨ l.foldl max a ∈ l)
  | [], a => by simp
  | y :: l, a => by
    obtain ⟨h1, h2, h3⟩ := foldl_max_ge l (max a y)
    rw [List.foldl_cons]
    refine ⟨by omega, fun x hx => ?_, ?_⟩
    · rcases List.mem_cons.mp hx with rfl | hx
      · omega
      · exact h2 x hx
    · rcases h3 with h3 | h3
      · rw [h3]
        by_cases q : y ≤ a
        · left; omega
        · right; rw [show max a y = y by omega]; exact .head _
      · exact .inr (.tail _ h3)
theorem foldl_min_le : ∀ (l : List Nat) (a : Nat), l.foldl min a ≤ a ∧ (∀ x ∈ l, l.foldl min a ≤ x) ∧ (l.foldl min a = a ∨ l.foldl min a ∈ l)
  | [], a => by simp
  | y :: l, a => by
    obtain ⟨h1, h2, h3⟩ := foldl_min_le l (min a y)
    rw [List.foldl_cons]
    refine ⟨by omega, fun x hx => ?_, ?_⟩
    · rcases List.mem_cons.mp hx with rfl | hx
      · omega
      · exact h2 x hx
    · rcases h3 with h3 | h3
      · rw [h3]
        by_cases q : a ≤ y
        · left; omega
        · right; rw [show min a y = y by omega]; exact .head _
      · exact .inr (.tail _ h3)
theorem maxL_is {l : List Nat} {M : Int} (h1 : M ∈ l.map fun (k : Nat) => (k : Int)) (h2 : ∀ a, a ∈ (l.map fun (k : Nat) => (k : Int)) → a ≤ M) : M = ((maxL l : Nat) : Int) := by
  obtain ⟨k, hk, rfl⟩ := List.mem_map.mp h1
  cases l with
  | nil => cases hk
  | cons a l =>
    obtain ⟨q1, q2, q3⟩ := foldl_max_ge (a :: l) a
    have q4 : (a :: l).foldl max a ∈ a :: l := q3.elim (fun e => by rw [e]; exact .head _) id
    have h3 := h2 _ (List.mem_map.mpr ⟨_, q4, rfl⟩)
    have h4 := q2 k hk
    show (k : Int) = (((a :: l).foldl max a : Nat) : Int)
    omega
theorem minL_is {l : List Nat} {M : Int} (h1 : M ∈ l.map fun (k : Nat) => (k : Int)) (h2 : ∀ a, a ∈ (l.map fun (k : Nat) => (k : Int)) → M ≤ a) : M = ((minL l : Nat) : Int) := by
  obtain ⟨k, hk, rfl⟩ := List.mem_map.mp h1
  cases l with
  | nil => cases hk
  | cons a l =>
    obtain ⟨q1, q2, q3⟩ := foldl_min_le (a :: l) a
    have q4 : (a :: l).foldl min a ∈ a :: l := q3.elim (fun e => by rw [e]; exact .head _) id
    have h3 := h2 _ (List.mem_map.mpr ⟨_, q4, rfl⟩)
    have h4 := q2 k hk
    show (k : Int) = (((a :: l).foldl min a : Nat) : Int)
    omega
theorem ints_of {l : List Nat} {vs : List Value} (h : Paired NatV l vs) : IntsAre vs (l.map fun (k : Nat) => (k : Int)) := by
  induction h with
  | nil => exact .nil
  | cons a _ ih => obtain ⟨t, rfl⟩ := a; exact .cons _ _ ih
def tornTo (row : List Nat) (i : Nat) : List Nat := ((List.range i).map fun j => 1 + j).filter fun k => decide (((maxL (row.take (k + 1)) : Nat) : Int) - ((minL (row.take (k + 1)) : Nat) : Int) ≠ (k : Int))
theorem torn_yes {row : List Nat} {i : Nat} {ys : List Value} {t : Tok} (hJ : Paired NatV (tornTo row i) ys) (h : ((maxL (row.take (i + 2)) : Nat) : Int) - ((minL (row.take (i + 2)) : Nat) : Int) ≠ 1 + (i : Int)) : Paired NatV (tornTo row (i + 1)) (ys ++ [.int (1 + (i : Int)) t]) := by
  unfold tornTo at hJ ⊢
  rw [List.range_succ, List.map_append, List.filter_append]
  refine Paired.append' hJ ?_
  rw [List.map_cons, List.map_nil, List.filter_cons_of_pos]
  · exact .cons ⟨t, by rw [Int.natCast_add]; rfl⟩ .nil
  · rw [decide_eq_true_iff, show 1 + i + 1 = i + 2 by omega]
    intro q
    apply h
    omega
theorem torn_no {row : List Nat} {i : Nat} {ys : List Value} (hJ : Paired NatV (tornTo row i) ys) (h : ((maxL (row.take (i + 2)) : Nat) : Int) - ((minL (row.take (i + 2)) : Nat) : Int) = 1 + (i : Int)) : Paired NatV (tornTo row (i + 1)) ys := by
  unfold tornTo at hJ ⊢
  rw [List.range_succ, List.map_append, List.filter_append]
  rw [List.map_cons, List.map_nil, List.filter_cons_of_neg]
  · simpa using hJ
  · rw [decide_eq_true_iff, show 1 + i + 1 = i + 2 by omega]
    intro q
    apply q
    omega
end Mine
end
section
open PySem PySem.W PySem.Calls PyProof.Rows
set_option maxRecDepth 100000
namespace Mine
/-- a list comprehension of two clauses -/
abbrev nest (elt t1 i1 t2 i2 : PySem.Expr) (scope : Scope) (pos : Pos) : PySem.Expr := .ListComp elt [⟨t1, i1, [], 0⟩, ⟨t2, i2, [], 0⟩] scope pos
theorem nest_turn0 (elt t1 i1 t2 i2 : PySem.Expr) (scope : Scope) (pos : Pos) (it acc : Value) (env : Env) :
    compTurn (nest elt t1 i1 t2 i2 scope pos) 0 it acc env = (standAt i1.pos >>= fun _ => pyNext it >>= fun r => match r with
      | none => pure (.done .next)
      | some v => letOwnedTupleGo t1 it v >>= fun _ => assign t1 env v >>= fun _ =>
        eval i2 env >>= fun x => standAt i2.pos >>= fun _ => foldedSetIterable i2 env x >>= fun x => holding [x] (pyIter x) >>= fun it2 =>
          runOwn (.compStart (nest elt t1 i1 t2 i2 scope pos) 1 it2 acc env) env >>= fun _ =>
          again (.compLoop (nest elt t1 i1 t2 i2 scope pos) 0 it acc env)) := by rfl
theorem nest_turn1 (elt t1 i1 t2 i2 : PySem.Expr) (scope : Scope) (pos : Pos) (it acc : Value) (env : Env) :
    compTurn (nest elt t1 i1 t2 i2 scope pos) 1 it acc env = (standAt i2.pos >>= fun _ => pyNext it >>= fun r => match r with
      | none => pure (.done .next)
      | some v => letOwnedTupleGo t2 it v >>= fun _ => assign t2 env v >>= fun _ =>
        (eval elt env >>= fun x => call (.builtin "list.append") [acc, x] >>= fun _ => pure ()) >>= fun _ =>
          again (.compLoop (nest elt t1 i1 t2 i2 scope pos) 1 it acc env)) := by rfl
section
variable {prog : Program} {w : World} {A : Around} {E : Value → Shared → Prop} {s : Shared} {env : Env} {scope : Scope} {cl : List (Str × Addr)} {C : Addr}
theorem nest_inner {x y : Str} {px0 px py : Pos} {i1 i2 : PySem.Expr} {pos : Pos} {D I : Addr} {base : Heap} {m : Str → Option Value} {ys : List Value} {ep k : Nat} {v : Value} {io : Obj} {news : List (Addr × Obj)} {R : Result → Shared → Prop}
    (hh : A.handled = none) (hkind : scope.kind = .function) (hkx : (compEnvC scope cl C env).kindOf x = some .local) (hky : (compEnvC scope cl C env).kindOf y = some .local) (hxd : (x == ("__debug__" : Str)) = false) (hxy : x ≠ y)
    (F : Fr base C s.heap m) (hmx : m x = some v) (N : News base C s.heap ((I, io) :: (D, listOf ys.toArray ep) :: news)) (hit : IsRangeIter s.heap I 0 (k : Int) 1) (hne : ∀ p ∈ news, p.1 ≠ D ∧ p.1 ≠ I) (hID : I ≠ D) (hsz : ys.length + k ≤ 1000)
    (fin : ∀ h' tk m' ep', Fr base C h' m' → News base C h' ((D, listOf (ys ++ List.replicate k v).toArray ep') :: news) → R (.ok .next) { s with heap := h', toks := tk }) :
    codeAny (model prog w) A (.compLoop (nest (.Name x px0) (.Name x px) i1 (.Name y py) i2 scope pos) 1 (.ref I) (.ref D) (compEnvC scope cl C env)) R s := by
  have W := Walks.range (prog := prog) (w := w) (A := A) hh I 0 1 k
  refine codeAny_loop rfl (fun k' s' => ∃ h tk m₁ io₁ ep₁ i, s' = { s with heap := h, toks := tk } ∧ i ≤ k ∧ k' = k - i ∧ m₁ x = some v ∧ IsRangeIter h I (0 + (i : Int) * 1) ((k : Int) - (i : Int)) 1 ∧ Fr base C h m₁ ∧ News base C h ((I, io₁) :: (D, listOf (ys ++ List.replicate i v).toArray ep₁) :: news))
    (fun k' s' hI => ?_) k ⟨s.heap, s.toks, m, io, ep, 0, rfl, Nat.zero_le _, rfl, hmx, by simpa using hit, F, by simpa using N⟩
  show wpAny _ _ ((compTurn (nest (.Name x px0) (.Name x px) i1 (.Name y py) i2 scope pos) 1 (.ref I) (.ref D) (compEnvC scope cl C env)).onRaise (fun x => do noteFrame x (compEnvC scope cl C env); theTreesLotGoes x)) _ _ _
  refine wpAny_noted ?_
  rw [nest_turn1]
  obtain ⟨h, tk, m₁, io₁, ep₁, i, rfl, hi, rfl, hm₁, hit₁, F₁, N₁⟩ := hI
  refine wpAny_bind (wpAny_standAt (wpAny_bind ?_))
  have I0 := N₁ _ (.head _)
  have D0 := N₁ _ (.tail _ (.head _))
  have upF : ∀ h₁, (∀ b o, b ∉ [I] → h.get? b = some o → h₁.get? b = some o) → Fr base C h₁ m₁ := fun h₁ k => ⟨F₁.ns.at' fun o e => k _ o (fun q => I0.2.1 (List.mem_singleton.mp q).symm) e, fun b o e => k b o (fun q => by rw [List.mem_singleton.mp q, I0.2.2] at e; cases e) (F₁.keep b o e), F₁.above⟩
  have upN : ∀ h₁, (∀ b o, b ∉ [I] → h.get? b = some o → h₁.get? b = some o) → News base C h₁ ((D, listOf (ys ++ List.replicate i v).toArray ep₁) :: news) := fun h₁ k p hp => by
    refine ⟨k _ _ (fun q => ?_) (N₁ p (.tail _ hp)).1, (N₁ p (.tail _ hp)).2⟩
    rcases List.mem_cons.mp hp with rfl | hp
    · exact hID (List.mem_singleton.mp q).symm
    · exact (hne p hp).2 (List.mem_singleton.mp q)
  rcases Nat.lt_or_eq_of_le hi with hlt | rfl
  · refine W.item i _ _ _ hlt hit₁ fun v' h₁ tk₁ hv hit₂ hk₁ => ?_
    have F₂ := upF h₁ hk₁
    obtain ⟨io₂, hio₂, hup₂⟩ : ∃ io', h₁.get? I = some io' ∧ (∀ h : Heap, h.get? I = some io' → IsRangeIter h I (0 + ((i + 1 : Nat) : Int) * 1) ((k : Int) - ((i + 1 : Nat) : Int)) 1) := ⟨_, hit₂, fun _ e => e⟩
    have N₂ : News base C h₁ ((I, io₂) :: (D, listOf (ys ++ List.replicate i v).toArray ep₁) :: news) := fun p hp => by
      rcases List.mem_cons.mp hp with rfl | hp
      · exact ⟨hio₂, I0.2⟩
      · exact upN h₁ hk₁ p hp
    refine wpAny_bind (lot_name (wpAny_bind (wpAny_assign_Name ?_)))
    refine cn_store F₂ N₂ (fun h₂ F₃ N₃ => ?_) hkind hky
    refine wpAny_bind (wpAny_bind (cn_L F₃ (v := v) ?_ ?_ hkind hkx hxd))
    · show (if x = y then _ else m₁ x) = _
      rw [if_neg hxy]; exact hm₁
    · refine wpAny_bind (append_led (its := ys ++ List.replicate i v) (n := ep₁) (news := (I, io₂) :: news) F₃ ?_ ?_ ?_ fun h₄ F₄ N₄ => ?_)
      · intro p hp
        rcases List.mem_cons.mp hp with rfl | hp
        · exact N₃ _ (.tail _ (.head _))
        · rcases List.mem_cons.mp hp with rfl | hp
          · exact N₃ _ (.head _)
          · exact N₃ _ (.tail _ (.tail _ hp))
      · intro p hp
        rcases List.mem_cons.mp hp with rfl | hp
        · exact hID
        · exact (hne p hp).1
      · rw [List.length_append, List.length_replicate]
        exact Nat.le_trans (by omega : ys.length + i ≤ 1000) (Nat.le_of_ble_eq_true rfl)
      · refine wpAny_pure (wpAny_pure ⟨rfl, k - (i + 1), by omega, h₄, _, _, io₂, ep₁ + 1, i + 1, rfl, hlt, rfl, ?_, hup₂ _ (N₄ _ (.tail _ (.head _))).1, F₄, fun p hp => ?_⟩)
        · show (if x = y then _ else m₁ x) = _
          rw [if_neg hxy]; exact hm₁
        · rw [List.replicate_succ', ← List.append_assoc] at hp
          rcases List.mem_cons.mp hp with rfl | hp
          · exact N₄ _ (.tail _ (.head _))
          · rcases List.mem_cons.mp hp with rfl | hp
            · exact N₄ _ (.head _)
            · exact N₄ _ (.tail _ (.tail _ hp))
  · refine W.done _ _ _ hit₁ fun h₁ tk₁ hk₁ => wpAny_pure ?_
    exact fin h₁ tk₁ m₁ ep₁ (upF h₁ hk₁) (upN h₁ hk₁)

theorem nest_start1 {elt t1 i1 t2 i2 : PySem.Expr} {pos : Pos} {I : Addr} {acc : Value} {R : Result → Shared → Prop} {x left step : Int} (hit : IsRangeIter s.heap I x left step)
    (h0 : codeAny (model prog w) A (.compLoop (nest elt t1 i1 t2 i2 scope pos) 1 (.ref I) acc env) R s) : codeAny (model prog w) A (.compStart (nest elt t1 i1 t2 i2 scope pos) 1 (.ref I) acc env) R s := by
  refine codeAny_of_tree ?_
  show wpAny _ _ ((compStart (nest elt t1 i1 t2 i2 scope pos) 1 (.ref I) acc env).onRaise (fun x => do noteFrame x env; standAt theWindowsPlace)) _ _ s
  refine wpAny_notedAt ?_
  unfold compStart
  show wpAny _ _ (ask >>= _) _ _ s
  refine wpAny_bind (wpAny_askSetting (wpAny_ite ?_))
  split
  · exact wpAny_bind (wpAny_pure (wpAny_pure ⟨rfl, h0⟩))
  · refine wpAny_bind (wpAny_rule ?_)
    show wpAny _ _ (standAt i2.pos >>= _) _ _ s
    exact wpAny_bind (wpAny_standAt (wpAny_bind (wpAny_pyIter_rangeiter hit (wpAny_pure ⟨rfl, h0⟩))))
theorem nest_outer {x y : Str} {px0 px py : Pos} {i1 i2 : PySem.Expr} {pos : Pos} {D I : Addr} {base : Heap} {m : Str → Option Value} {n ep : Nat} {a : Int} {io : Obj} {cnt : Nat → Nat} {news : List (Addr × Obj)} {R : Result → Shared → Prop}
    (hh : A.handled = none) (hkind : scope.kind = .function) (hkx : (compEnvC scope cl C env).kindOf x = some .local) (hky : (compEnvC scope cl C env).kindOf y = some .local) (hxd : (x == ("__debug__" : Str)) = false) (hxy : x ≠ y)
    (hs : ∀ env x, foldedSetIterable i2 env x = pure x)
    (F : Fr base C s.heap m) (N : News base C s.heap ((I, io) :: (D, listOf [].toArray ep) :: news)) (hit : IsRangeIter s.heap I a (n : Int) 1) (hne : ∀ p ∈ news, p.1 ≠ D ∧ p.1 ≠ I) (hID : I ≠ D) (hcnt : ∀ i, cnt i ≤ 8) (hn : n ≤ 8)
    (turn : ∀ i t h tk (m₁ : Str → Option Value) (q₁ q₂ : Addr × Obj), i < n → Fr base C h (fun z => if z = x then some (.int (a + (i : Int)) t) else m₁ z) → News base C h (q₁ :: q₂ :: news) →
      wpAny (model prog w) A (eval i2 (compEnvC scope cl C env)) (fun xv s₁ => Halt (∃ r t₁ t₂ t₃ h₁ tk₁, s₁ = { s with heap := h₁, toks := tk₁ } ∧ xv = .ref r ∧ IsRange h₁ r 0 (cnt i : Int) 1 t₁ t₂ t₃ ∧ Fr base C h₁ (fun z => if z = x then some (.int (a + (i : Int)) t) else m₁ z) ∧ News base C h₁ (q₁ :: q₂ :: news))) (fun _ _ => False) { s with heap := h, toks := tk })
    (fin : ∀ h' tk m' ys ep', Paired IntV ((List.range n).flatMap fun j => List.replicate (cnt j) (a + (j : Int))) ys → Fr base C h' m' → News base C h' ((D, listOf ys.toArray ep') :: news) → R (.ok .next) { s with heap := h', toks := tk }) :
    codeAny (model prog w) A (.compLoop (nest (.Name x px0) (.Name x px) i1 (.Name y py) i2 scope pos) 0 (.ref I) (.ref D) (compEnvC scope cl C env)) R s := by
  have W := Walks.range (prog := prog) (w := w) (A := A) hh I a 1 n
  refine codeAny_loop rfl (fun k' s' => ∃ h tk m₁ io₁ ep₁ i ys, s' = { s with heap := h, toks := tk } ∧ i ≤ n ∧ k' = n - i ∧ Paired IntV ((List.range i).flatMap fun j => List.replicate (cnt j) (a + (j : Int))) ys ∧ ys.length ≤ 8 * i ∧ IsRangeIter h I (a + (i : Int) * 1) ((n : Int) - (i : Int)) 1 ∧ Fr base C h m₁ ∧ News base C h ((I, io₁) :: (D, listOf ys.toArray ep₁) :: news))
    (fun k' s' hI => ?_) n ⟨s.heap, s.toks, m, io, ep, 0, [], rfl, Nat.zero_le _, rfl, .nil, by simp, by simpa using hit, F, by simpa using N⟩
  show wpAny _ _ ((compTurn (nest (.Name x px0) (.Name x px) i1 (.Name y py) i2 scope pos) 0 (.ref I) (.ref D) (compEnvC scope cl C env)).onRaise (fun x => do noteFrame x (compEnvC scope cl C env); theTreesLotGoes x)) _ _ _
  refine wpAny_noted ?_
  rw [nest_turn0]
  obtain ⟨h, tk, m₁, io₁, ep₁, i, ys, rfl, hi, rfl, hys, hysl, hit₁, F₁, N₁⟩ := hI
  refine wpAny_bind (wpAny_standAt (wpAny_bind ?_))
  have I0 := N₁ _ (.head _)
  have D0 := N₁ _ (.tail _ (.head _))
  have upF : ∀ h₁, (∀ b o, b ∉ [I] → h.get? b = some o → h₁.get? b = some o) → Fr base C h₁ m₁ := fun h₁ k => ⟨F₁.ns.at' fun o e => k _ o (fun q => I0.2.1 (List.mem_singleton.mp q).symm) e, fun b o e => k b o (fun q => by rw [List.mem_singleton.mp q, I0.2.2] at e; cases e) (F₁.keep b o e), F₁.above⟩
  have upN : ∀ h₁, (∀ b o, b ∉ [I] → h.get? b = some o → h₁.get? b = some o) → News base C h₁ ((D, listOf ys.toArray ep₁) :: news) := fun h₁ k p hp => by
    refine ⟨k _ _ (fun q => ?_) (N₁ p (.tail _ hp)).1, (N₁ p (.tail _ hp)).2⟩
    rcases List.mem_cons.mp hp with rfl | hp
    · exact hID (List.mem_singleton.mp q).symm
    · exact (hne p hp).2 (List.mem_singleton.mp q)
  rcases Nat.lt_or_eq_of_le hi with hlt | rfl
  · refine W.item i _ _ _ hlt hit₁ fun v' h₁ tk₁ hv hit₂ hk₁ => ?_
    have F₂ := upF h₁ hk₁
    obtain ⟨io₂, hio₂, hup₂⟩ : ∃ io', h₁.get? I = some io' ∧ (∀ h : Heap, h.get? I = some io' → IsRangeIter h I (a + ((i + 1 : Nat) : Int) * 1) ((n : Int) - ((i + 1 : Nat) : Int)) 1) := ⟨_, hit₂, fun _ e => e⟩
    have N₂ : News base C h₁ ((I, io₂) :: (D, listOf ys.toArray ep₁) :: news) := fun p hp => by
      rcases List.mem_cons.mp hp with rfl | hp
      · exact ⟨hio₂, I0.2⟩
      · exact upN h₁ hk₁ p hp
    obtain ⟨t, rfl⟩ := hv
    rw [Int.mul_one]
    refine wpAny_bind (lot_name (wpAny_bind (wpAny_assign_Name ?_)))
    refine cn_store F₂ N₂ (fun h₂ F₃ N₃ => ?_) hkind hkx
    refine wpAny_bind (wpAny_mono (turn i t h₂ _ _ _ _ hlt F₃ N₃) (fun xv s₁ hx => ?_) fun _ _ e => e.elim)
    obtain ⟨r, t₁, t₂, t₃, h₃, tk₃, rfl, rfl, hr, F₄, N₄⟩ := hx
    refine wpAny_bind (wpAny_standAt (wpAny_bind (wpAny_of_eq (hs _ _) (wpAny_bind (wpAny_holding ?_)))))
    have hck := hcnt i
    have hrs : Builtin.Range.rangeSize 0 (cnt i : Int) 1 = (cnt i : Int) ∧ Builtin.Range.small 0 (cnt i : Int) 1 = true := by
      revert hck
      generalize cnt i = c
      intro hck
      have : ∀ c : Fin 9, Builtin.Range.rangeSize 0 ((c : Nat) : Int) 1 = ((c : Nat) : Int) ∧ Builtin.Range.small 0 ((c : Nat) : Int) 1 = true := by decide +kernel
      exact this ⟨c, by omega⟩
    refine wpAny_pyIter_range hr hrs.2 ?_
    rw [hrs.1]
    dsimp only at F₄ N₄ hr ⊢
    have hI0 : base.get? h₃.objs.size = none := by
      cases q : base.get? h₃.objs.size with
      | none => rfl
      | some o => exact absurd (Heap.lt_size (F₄.keep _ _ q)) (Nat.lt_irrefl _)
    have hCI : C ≠ h₃.objs.size := by
      obtain ⟨o, _, _, ho, _⟩ := F₄.ns
      exact Nat.ne_of_lt (Heap.lt_size ho)
    have hlt' : ∀ p ∈ ((I, io₂) :: (D, listOf ys.toArray ep₁) :: news), p.1 ≠ h₃.objs.size := fun p hp => Nat.ne_of_lt (Heap.lt_size (N₄ p hp).1)
    refine wpAny_bind (wpAny_runOwn (nest_start1 (x := 0) (left := (cnt i : Int)) (step := 1) (Heap.get?_push_size _ rfl) (nest_inner (m := fun z => if z = x then some (.int (a + (i : Int)) t) else m₁ z) (v := .int (a + (i : Int)) t) (ys := ys) (ep := ep₁) (k := cnt i) (news := (I, io₂) :: news)
      (io := { cls := .type "range_iterator", data := .fields #[rawInt 0, rawInt (cnt i : Int), rawInt 1] }) hh hkind hkx hky hxd hxy (F₄.push _) (by rw [if_pos rfl]) (fun p hp => ?_) (Heap.get?_push_size _ rfl) ?_ (fun q => hlt' _ (.tail _ (.head _)) q.symm) (by omega) fun h₅ tk₅ m₅ ep₅ F₅ N₅ => ?_)))
    · rcases List.mem_cons.mp hp with rfl | hp
      · exact ⟨Heap.get?_push_size _ rfl, Ne.symm hCI, hI0⟩
      · have hp' : p ∈ ((I, io₂) :: (D, listOf ys.toArray ep₁) :: news) := by
          rcases List.mem_cons.mp hp with rfl | hp
          · exact .tail _ (.head _)
          · rcases List.mem_cons.mp hp with rfl | hp
            · exact .head _
            · exact .tail _ (.tail _ hp)
        exact ⟨Heap.get?_push_of_some _ (N₄ p hp').1, (N₄ p hp').2⟩
    · intro p hp
      rcases List.mem_cons.mp hp with rfl | hp
      · exact ⟨hID, hlt' _ (.head _)⟩
      · exact ⟨(hne p hp).1, hlt' _ (.tail _ (.tail _ hp))⟩
    · refine wpAny_pure ⟨rfl, n - (i + 1), by omega, h₅, tk₅, m₅, io₂, ep₅, i + 1, ys ++ List.replicate (cnt i) (.int (a + (i : Int)) t), rfl, hlt, rfl, ?_, ?_, hup₂ _ (N₅ _ (.tail _ (.head _))).1, F₅, fun p hp => ?_⟩
      · rw [List.range_succ, List.flatMap_append]
        refine Paired.append' hys ?_
        have : ∀ c, Paired IntV (List.replicate c (a + (i : Int))) (List.replicate c (.int (a + (i : Int)) t)) := by
          intro c
          induction c with
          | zero => exact .nil
          | succ c ih => exact .cons ⟨_, rfl⟩ ih
        simpa using this (cnt i)
      · rw [List.length_append, List.length_replicate]; omega
      · rcases List.mem_cons.mp hp with rfl | hp
        · exact N₅ _ (.tail _ (.head _))
        · rcases List.mem_cons.mp hp with rfl | hp
          · exact N₅ _ (.head _)
          · exact N₅ _ (.tail _ (.tail _ hp))
  · refine W.done _ _ _ hit₁ fun h₁ tk₁ hk₁ => wpAny_pure ?_
    exact fin h₁ tk₁ m₁ ys ep₁ hys (upF h₁ hk₁) (upN h₁ hk₁)

theorem nest_eval {x y : Str} {px0 px py : Pos} {i1 i2 : PySem.Expr} {pos : Pos} {n : Nat} {a b : Int} {cnt : Nat → Nat} {Q : Value → Shared → Prop}
    (hh : A.handled = none) (hclos : closureFor scope env = pure cl) (hcell : ∀ y ∈ scope.names, y.2 ≠ .cell) (hkind : scope.kind = .function) (hnames : ∀ y ∈ scope.names, y.2 = .local → scope.names.lookup y.1 = some .local)
    (hkx : ∀ C, (compEnvC scope cl C env).kindOf x = some .local) (hky : ∀ C, (compEnvC scope cl C env).kindOf y = some .local) (hxd : (x == ("__debug__" : Str)) = false) (hxy : x ≠ y)
    (hs1 : ∀ x, foldedSetIterable i1 env x = pure x) (hs : ∀ env x, foldedSetIterable i2 env x = pure x) (hcnt : ∀ i, cnt i ≤ 8) (hn : n ≤ 8) (hsm : Builtin.Range.small a b 1 = true) (hrs : Builtin.Range.rangeSize a b 1 = (n : Int))
    (h : wpAny (model prog w) A (eval i1 env) (fun xv s₁ => Halt (∃ (h₀ : Heap) (L : Addr) (m : Str → Option Value) (news : List (Addr × Obj)) (r : Addr) (t₁ t₂ t₃ : Tok), xv = .ref r ∧ IsRange s₁.heap r a b 1 t₁ t₂ t₃ ∧ Fr h₀ L s₁.heap m ∧ News h₀ L s₁.heap news ∧
      (∀ base C i t h tk (m₁ : Str → Option Value) (q₁ q₂ : Addr × Obj), i < n → (∀ b o, h₀.get? b = some o → base.get? b = some o) → Fr base C h (fun z => if z = x then some (.int (a + (i : Int)) t) else m₁ z) → News base C h (q₁ :: q₂ :: news) →
        wpAny (model prog w) A (eval i2 (compEnvC scope cl C env)) (fun xv s₂ => Halt (∃ r t₁ t₂ t₃ h₁ tk₁, s₂ = { s₁ with heap := h₁, toks := tk₁ } ∧ xv = .ref r ∧ IsRange h₁ r 0 (cnt i : Int) 1 t₁ t₂ t₃ ∧ Fr base C h₁ (fun z => if z = x then some (.int (a + (i : Int)) t) else m₁ z) ∧ News base C h₁ (q₁ :: q₂ :: news))) (fun _ _ => False) { s₁ with heap := h, toks := tk }) ∧
      (∀ D h' tk ys ep, Paired IntV ((List.range n).flatMap fun j => List.replicate (cnt j) (a + (j : Int))) ys → Fr h₀ L h' m → News h₀ L h' ((D, listOf ys.toArray ep) :: news) → (∀ b o, s₁.heap.get? b = some o → h'.get? b = some o) → s₁.heap.get? D = none → Q (.ref D) { s₁ with heap := h', toks := tk }))) E s) :
    wpAny (model prog w) A (eval (nest (.Name x px0) (.Name x px) i1 (.Name y py) i2 scope pos) env) Q E s := by
  rw [eval_ListComp]
  refine wpAny_comprehension_free (use := none) rfl hs1 hclos hkind hnames (wpAny_mono h (fun xv s₁ h₁ => ?_) fun _ _ e => e)
  obtain ⟨h₀, L, m, news, r, t₁, t₂, t₃, rfl, hr, F, N, turn, fin⟩ := h₁
  refine wpAny_pyIter_range hr hsm ?_
  rw [hrs]
  refine wpAny_newObj_type (wpAny_newFunctionEnv hcell (by intro y hy; simp at hy) (fun h₁ hns₁ hsb₁ => ?_) hkind)
  dsimp only at hns₁ hsb₁ ⊢
  generalize hrit : ({ cls := .type "range_iterator", data := .fields #[rawInt a, rawInt (n : Int), rawInt 1] } : Obj) = rit at hns₁ hsb₁ ⊢
  have hritI : ∀ h : Heap, ∀ I, h.get? I = some rit → IsRangeIter h I a (n : Int) 1 := fun h I e => by rw [← hrit] at e; exact e
  generalize hH1 : s₁.heap.push rit = H1 at hns₁ hsb₁ ⊢
  generalize hH2 : H1.push { cls := .type "list", dict := none, data := .seq ([] : List Value).toArray } = H2 at hns₁ hsb₁ ⊢
  have hs1' : H1.objs.size = s₁.heap.objs.size + 1 := by rw [← hH1, Heap.size_push]
  have hs2' : H2.objs.size = H1.objs.size + 1 := by rw [← hH2, Heap.size_push]
  have l1 : s₁.heap.objs.size < H1.objs.size := by rw [hs1']; exact Nat.lt_succ_self _
  have l2 : H1.objs.size < H2.objs.size := by rw [hs2']; exact Nat.lt_succ_self _
  have l3 : s₁.heap.objs.size < H2.objs.size := Nat.lt_trans l1 l2
  have hfr : rit.isFreed = false := by rw [← hrit]; rfl
  have fresh : ∀ a, s₁.heap.objs.size ≤ a → s₁.heap.get? a = none := fun a ha => by
    cases e : s₁.heap.get? a with
    | none => rfl
    | some o' => exact absurd (Heap.lt_size e) (Nat.not_lt.mpr ha)
  have base0 : ∀ b, s₁.heap.get? b = none → (hideAll s₁.heap (news.map (·.1))).get? b = none := fun b q => by
    cases e : (hideAll s₁.heap (news.map (·.1))).get? b with
    | none => rfl
    | some o => rw [of_hideAll _ e] at q; cases q
  have up : ∀ b o, s₁.heap.get? b = some o → h₁.get? b = some o := fun b o e =>
    hsb₁.extBut b o (Nat.ne_of_lt (Nat.lt_trans (Heap.lt_size e) l3)) (Heap.get?_push_of_some _ (hH2 ▸ Heap.get?_push_of_some _ (hH1 ▸ Heap.get?_push_of_some _ e)))
  have FF : Fr (hideAll s₁.heap (news.map (·.1))) H2.objs.size h₁ (fun x => (([] : List (Str × Value)).reverse).lookup x) := ⟨hns₁, fun b o e => up b o (of_hideAll _ e), by rw [hideAll_size]; exact Nat.le_of_lt l3⟩
  have NN : News (hideAll s₁.heap (news.map (·.1))) H2.objs.size h₁ ((s₁.heap.objs.size, rit) :: (H1.objs.size, listOf ([] : List Value).toArray 0) :: news) := fun p hp => by
    rcases List.mem_cons.mp hp with rfl | hp
    · exact ⟨hsb₁.extBut _ _ (Nat.ne_of_lt l3) (Heap.get?_push_of_some _ (hH2 ▸ Heap.get?_push_of_some _ (hH1 ▸ Heap.get?_push_size _ hfr))), Nat.ne_of_lt l3, base0 _ (fresh _ (Nat.le_refl _))⟩
    · rcases List.mem_cons.mp hp with rfl | hp
      · exact ⟨hsb₁.extBut _ _ (Nat.ne_of_lt l2) (Heap.get?_push_of_some _ (hH2 ▸ Heap.get?_push_size _ rfl)), Nat.ne_of_lt l2, base0 _ (fresh _ (Nat.le_of_lt l1))⟩
      · exact ⟨up _ _ (N p hp).1, Nat.ne_of_lt (Nat.lt_trans (Heap.lt_size (N p hp).1) l3), hideAll_none _ (List.mem_map_of_mem hp)⟩
  have hlt' : ∀ p ∈ news, p.1 < s₁.heap.objs.size := fun p hp => Heap.lt_size (N p hp).1
  have go : codeAny (model prog w) A (.compLoop (nest (.Name x px0) (.Name x px) i1 (.Name y py) i2 scope pos) 0 (.ref s₁.heap.objs.size) (.ref H1.objs.size) (compEnvC scope cl H2.objs.size env)) (compPost (model prog w) A E none Q (.ref H1.objs.size) H2.objs.size) { s₁ with heap := h₁, toks := s₁.toks + ([] : List (Str × Value)).length } := by
    refine nest_outer (cnt := cnt) (n := n) (a := a) hh hkind (hkx _) (hky _) hxd hxy hs FF NN (hritI _ _ (NN _ (.head _)).1) (fun p hp => ⟨Nat.ne_of_lt (Nat.lt_trans (hlt' p hp) l1), Nat.ne_of_lt (hlt' p hp)⟩) (Nat.ne_of_lt l1) hcnt hn (fun i t h tk m₁ q₁ q₂ hi F₂ N₂ => turn _ _ i t h tk m₁ q₁ q₂ hi (up_hide F N) F₂ N₂) fun h' tk m' ys ep' hys F' N' => ?_
    refine ⟨m', F'.ns, fun h'' hs'' => ?_⟩
    have up2 : ∀ b o, s₁.heap.get? b = some o → h''.get? b = some o := fun b o e => by
      refine hs''.extBut b o (Nat.ne_of_lt (Nat.lt_trans (Heap.lt_size e) l3)) ?_
      by_cases hm : b ∈ news.map (·.1)
      · obtain ⟨p, hp, rfl⟩ := List.mem_map.mp hm
        rw [(N p hp).1] at e; cases e
        exact (N' p (.tail _ hp)).1
      · exact F'.keep b o (hideAll_get _ e hm)
    refine fin _ h'' tk ys ep' hys (fr_keeps F up2) (fun p hp => ?_) up2 (fresh _ (Nat.le_of_lt l1))
    rcases List.mem_cons.mp hp with rfl | hp
    · refine ⟨hs''.extBut _ _ (Nat.ne_of_lt l2) (N' _ (.head _)).1, fun q => ?_, ?_⟩
      · obtain ⟨o, _, _, ho, _⟩ := F.ns
        dsimp only at q
        rw [← q, fresh _ (Nat.le_of_lt l1)] at ho; cases ho
      · cases e : h₀.get? H1.objs.size with
        | none => rfl
        | some o => have := F.keep _ _ e; rw [fresh _ (Nat.le_of_lt l1)] at this; cases this
    · exact ⟨up2 _ _ (N p hp).1, (N p hp).2⟩
  exact codeAny_compStart_list go (wpAny_pyIter_rangeiter (hritI _ _ (NN _ (.head _)).1) go)
end
end Mine
end
section
open PySem PySem.W PySem.Calls PyProof.Rows
set_option maxRecDepth 100000
namespace Mine
def isSeq (o : Obj) : Prop := ∃ a k, o.data = .seq a k
theorem TabAt.live {h h' : Heap} {r : Tab} {v : Value} (t : TabAt h r v) (k : ∀ b o, isSeq o → h.get? b = some o → h'.get? b = some o) : TabAt h' r v := by
  obtain ⟨T, t, a, b, c, rfl, ⟨o, h1, h2, n, h3⟩, ⟨y1, e1, a1, a2⟩, ⟨y2, e2, b1, b2⟩, ⟨y3, e3, c1, c2⟩⟩ := t
  exact ⟨T, t, a, b, c, rfl, ⟨o, k _ _ ⟨_, _, h3⟩ h1, h2, n, h3⟩, ⟨y1, e1, k _ _ ⟨_, _, rfl⟩ a1, a2⟩, ⟨y2, e2, k _ _ ⟨_, _, rfl⟩ b1, b2⟩, ⟨y3, e3, k _ _ ⟨_, _, rfl⟩ c1, c2⟩⟩
theorem rng1_ok {n : Nat} (h5 : 5 ≤ n) (h8 : n ≤ 8) : Builtin.Range.small 1 (n : Int) 1 = true ∧ Builtin.Range.rangeSize 1 (n : Int) 1 = ((n - 1 : Nat) : Int) := by
  have : n = 5 ∨ n = 6 ∨ n = 7 ∨ n = 8 := by omega
  rcases this with e | e | e | e <;> subst e <;> decide
theorem dealt_mem (size t : Nat) (g : List Nat) : (∀ k ∈ (dealt size t g).1, k.c ∈ g) ∧ (∀ c ∈ (dealt size t g).2, c ∈ g) := by
  suffices h : ∀ r : List Nat, (∀ k ∈ (dealt size t r.reverse).1, k.c ∈ r.reverse) ∧ (∀ c ∈ (dealt size t r.reverse).2, c ∈ r.reverse) by
    have := h g.reverse
    simpa using this
  intro r
  induction r with
  | nil => simp [dealt]
  | cons c r ih =>
    rw [List.reverse_cons, dealt_snoc]
    generalize r.reverse = g at ih
    unfold deal lay
    cases hf : findK (kvOf size t c).j (dealt size t g).1 with
    | none =>
      dsimp only
      refine ⟨fun k hk => ?_, fun x hx => ?_⟩
      · rcases List.mem_append.mp hk with hk | hk
        · exact List.mem_append_left _ (ih.1 k hk)
        · rw [List.mem_singleton.mp hk]; simp [kvOf]
      · rcases List.mem_append.mp hx with hx | hx
        · exact List.mem_append_left _ (ih.2 x hx)
        · rw [List.mem_singleton.mp hx]; simp [kvOf]
    | some c' =>
      dsimp only
      obtain ⟨k', hk', rfl⟩ := findK_some hf
      refine ⟨fun k hk => List.mem_append_left _ (ih.1 k hk), fun x hx => ?_⟩
      rcases List.mem_append.mp hx with hx | hx
      · exact List.mem_append_left _ (ih.2 x hx)
      · rw [List.mem_singleton.mp hx]; exact List.mem_append_left _ (ih.1 k' hk')
theorem tab_small {cs : List Nat} {r : Tab} (hc : ∀ c ∈ cs, c < 16) (h : r ∈ tabsUpTo cs (cs.length - 1)) : (∀ c ∈ r.group, c < 16) ∧ (∀ c ∈ r.given, c < 16) ∧ (∀ c ∈ r.held, c < 16) := by
  obtain ⟨j, i, -, -, rfl⟩ := tab_mem h
  have hg : ∀ c ∈ piece cs (2 + j) i, c < 16 := fun c q => hc c (piece_mem q)
  have := dealt_mem (2 + j) (cs.headD 0) (piece cs (2 + j) i)
  refine ⟨hg, fun c q => hg c (this.2 c q), fun c q => ?_⟩
  obtain ⟨k, hk, rfl⟩ := List.mem_map.mp q
  exact hg _ (this.1 k hk)
theorem paired_ints {l : List Nat} {vs : List Value} (h : Paired NatV l vs) : Paired IntV (l.map fun (k : Nat) => (k : Int)) vs := by
  induction h with
  | nil => exact .nil
  | cons a _ ih => exact .cons a ih
theorem tup_live {h h' : Heap} {T : Addr} {its : Array Value} (t : IsTup h T its) (k : ∀ o, isSeq o → h.get? T = some o → h'.get? T = some o) : IsTup h' T its := by
  obtain ⟨o, h1, h2, n, h3⟩ := t
  exact ⟨o, k _ ⟨_, _, h3⟩ h1, h2, n, h3⟩
def IntsOf (n : Nat) (vs : List Value) : Prop := ∃ zs, Paired IntV zs vs ∧ zs.length = n
section
variable {prog : Program} {w : World} {A : Around} {E : Value → Shared → Prop} {s : Shared} {h₀ : Heap} {L : Addr} {m : Str → Option Value} {news : List (Addr × Obj)}
theorem slice_upto {value slice : PySem.Expr} {l : Addr} {vs : List Value} {n b : Nat} {u : Tok} {Q : Value → Shared → Prop} (F : Fr h₀ L s.heap m) (N : News h₀ L s.heap news) (hm : (l, listOf vs.toArray n) ∈ news) (hz : vs.length ≤ sizeLine)
    (h : ∀ D h', Fr h₀ L h' m → News h₀ L h' ((D, listOf (vs.take b).toArray 0) :: news) → (∀ p ∈ news, p.1 < D) → Q (.ref D) { s with heap := h' })
    (hs : subscripted slice false (.ref l) (.ref s.heap.objs.size) = operate [.ref s.heap.objs.size, .ref l] (getItem (.ref l) (.ref s.heap.objs.size)) := by with_unfolding_all rfl) (ht : ∀ r, letTemporaryGo value (.ref l) r = pure () := by intro _; with_unfolding_all rfl) :
    wpAny (model prog w) A (subscriptTail value slice (.ref l) (.ref s.heap.objs.size)) Q E { s with heap := s.heap.push { cls := .type "slice", data := .fields #[.none, .int (b : Int) u, .none] } } := by
  refine kmk_slice F N (PySem.IsL.isList (n := n) (N _ hm).1) .none (.int _ _) (fun D h' F' N' l' => h D h' F' ?_ l') hs ht (by rw [List.size_toArray]; exact hz)
  have e : sliceBounds none (some (b : Int)) none vs.toArray.size = (((0 : Nat) : Int), ((min b vs.toArray.size : Nat) : Int), 1) := by
    simp only [sliceBounds, Option.getD_none, show (1 : Int) > 0 by decide, if_true, if_neg (show ¬ ((b : Int) < 0) by omega)]
    congr 1
    congr 1
    omega
  rw [kmk_pick_nat _ e] at N'
  simp only [List.drop_zero, Nat.sub_zero, List.size_toArray, kmk_take_min] at N'
  exact N'
theorem slice_from {value slice : PySem.Expr} {l : Addr} {vs : List Value} {n a : Nat} {u : Tok} {Q : Value → Shared → Prop} (F : Fr h₀ L s.heap m) (N : News h₀ L s.heap news) (hm : (l, listOf vs.toArray n) ∈ news) (hz : vs.length ≤ sizeLine) (ha : a ≤ vs.length)
    (h : ∀ D h', Fr h₀ L h' m → News h₀ L h' ((D, listOf (vs.drop a).toArray 0) :: news) → (∀ p ∈ news, p.1 < D) → Q (.ref D) { s with heap := h' })
    (hs : subscripted slice false (.ref l) (.ref s.heap.objs.size) = operate [.ref s.heap.objs.size, .ref l] (getItem (.ref l) (.ref s.heap.objs.size)) := by with_unfolding_all rfl) :
    wpAny (model prog w) A (subscriptTail value slice (.ref l) (.ref s.heap.objs.size)) Q E { s with heap := s.heap.push { cls := .type "slice", data := .fields #[.int (a : Int) u, .none, .none] } } := by
  have hl := PySem.IsL.isList (n := n) (N _ hm).1
  refine tail_any (T := "list") (id := "list.__getitem__") (hl.push _).typeIs slot_list_getitem.lookup (wpAny_getItem_list_slice (hl.push _) (Heap.IsSliceOf.new ..) (.int _ _) .none .none (by simp) ?_ (by rw [List.size_toArray]; exact hz)) hs
  have N1 : News h₀ L (s.heap.push { cls := .type "slice", data := .fields #[.int (a : Int) u, .none, .none] }) news := news_keeps N fun b o e => Heap.get?_push_of_some _ e
  have F1 := F.push { cls := .type "slice", data := .fields #[.int (a : Int) u, .none, .none] }
  have N2 := N1.push F1 { cls := .type "list", data := .seq (slicePick vs.toArray (some (a : Int)) none none) }
  rw [slicePick_from _ _ (by simpa using ha)] at N2 ⊢
  refine h _ _ (F1.push _) ?_ fun p hp => Heap.lt_size (N1 p hp).1
  simpa using N2
theorem news_new {h h' : Heap} {D : Addr} {o : Obj} (F : Fr h₀ L h m) (hD0 : h.get? D = none) (hD : h'.get? D = some o) : News h₀ L h' [(D, o)] := fun p hp => by
  rw [List.mem_singleton.mp hp]
  refine ⟨hD, fun q => ?_, ?_⟩
  · obtain ⟨o, _, _, ho, _⟩ := F.ns
    dsimp only at q
    rw [← q, hD0] at ho; cases ho
  · cases e : h₀.get? D with
    | none => rfl
    | some o => rw [F.keep _ _ e] at hD0; cases hD0
local macro_rules | `(tactic| walk_at "exec For") => `(tactic| (k_here; refine Halt.mk ?_))
local macro_rules | `(tactic| walk_at "last exec For") => `(tactic| (k_here; refine Halt.mk ?_))
local macro_rules | `(tactic| walk_at "compareOp Eq ref ref") => `(tactic| (k_here; refine Halt.mk ?_))
local macro_rules | `(tactic| walk_at "compareOp NotEq ref ref") => `(tactic| (k_here; refine Halt.mk ?_))
local macro_rules | `(tactic| walk_at "eval ListComp") => `(tactic| (k_here; refine Halt.mk ?_))
local macro_rules | `(tactic| walk_at "exec Assign cons ListComp") => `(tactic| (k_here; refine Halt.mk ?_))
local macro_rules | `(tactic| walk_at "call builtin:len") => `(tactic| (k_here; first | (refine len_faces (by assumption) (by k_mem) (by assumption) (by assumption) ?_) | (refine KM.len_K (by assumption) (by k_mem) (List.size_toArray ..) (by omega) ?_); (try dsimp only)))
local macro_rules | `(tactic| walk_at "call ref") => `(tactic| (k_here; refine Halt.mk ?_))
local macro_rules | `(tactic| walk_at "call builtin:list.append") => `(tactic| (k_here; refine Halt.mk ?_))
local macro_rules | `(tactic| walk_at "call builtin:list.pop") => `(tactic| (k_here; refine Halt.mk ?_))
local macro_rules | `(tactic| walk_at "call builtin:list.remove") => `(tactic| (k_here; refine Halt.mk ?_))
local macro_rules | `(tactic| walk_at "subscriptTail") => `(tactic| (k_here; first
  | ((with_reducible show wpAny _ _ (subscriptTail _ _ (Value.ref _) (Value.int _ _)) _ _ _); (refine list_item (k := 0) (by assumption) (by k_mem) (by rfl) (by omega) (by assumption) ?_))
  | refine Halt.mk ?_))
local macro_rules | `(tactic| walk_at "subscriptTail Name Slice ref ref") => `(tactic| (k_here; refine Halt.mk ?_))
local macro_rules | `(tactic| walk_at "eval Name") => `(tactic| (k_here; (with_reducible show wpAny _ _ (eval (Expr.Name _ _) (compEnvC _ _ _ _)) _ _ _); first
  | (refine' cn_L ?zF ?zv ?_ ?za ?zb; (case zF => k_asm); (case za => rfl); (case zb => rfl); (case zv => rfl); k_whole)
  | (refine' cn_K ?zF ?zX ?zT ?ze ?_ ?za ?zb; (case zF => k_asm); (case zX => k_asm); (case zT => k_asm); (case za => rfl); (case zb => rfl); (case ze => k_is); k_whole)
  | (refine' cn_B ?zF ?zX ?zT ?ze ?zv ?zn ?_ ?za ?zb; (case zF => k_asm); (case zX => k_asm); (case zT => k_asm); (case za => rfl); (case zb => rfl); (case ze => k_is); (case zv => boot_fast); (case zn => decide); k_whole)
  | (refine' cn_C ?zN ?zc ?zm ?zd ?_ ?za ?zb; (case za => rfl); (case zb => rfl); (case zN => k_asm); (case zc => rfl); (case zm => k_mem); (case zd => k_asm); k_whole)))
local macro_rules | `(tactic| walk_at "storeName") => `(tactic| (k_here; (with_reducible show wpAny _ _ (storeName (compEnvC _ _ _ _) _ _) _ _ _); (refine' cn_store ?zF ?zN ?_ ?za ?zb; (case zF => k_asm); (case zN => k_asm); (case za => rfl); (case zb => rfl); k_whole; intro h' F' N'; (try k_sweep))))
local macro_rules | `(tactic| walk_at "call builtin:max") => `(tactic| (k_here; refine Halt.mk ?_))
local macro_rules | `(tactic| walk_at "call builtin:min") => `(tactic| (k_here; refine Halt.mk ?_))
local macro_rules | `(tactic| walk_at "compareOp NotIn bool ref") => `(tactic| (k_here; refine Halt.mk ?_))
set_option maxHeartbeats 4000000 in
theorem law_spec {Q : Value → Shared → Prop} {sl : Addr} {eps : Nat} {xs : List Int} {xvs : List Value} (hx : Paired IntV xs xvs) (hxl : xs.length ≤ 63)
    (hn : s.heap.get? sl = some (listOf xvs.toArray eps)) (G : Gl w (hideAll s.heap [sl])) (hA : Room A 8) (hall : ∀ x ∈ s.gens, x.bare = true)
    (ret : ∀ h' tk' g', (∀ b o, s.heap.get? b = some o → h'.get? b = some o) → (∀ x ∈ g', x.bare = true) → Q (.bool true) { s with heap := h', toks := tk', gens := g' }) :
    wpAny (model prog w) A (call (.ref 233) [.ref sl]) Q E s := by
  refine wpAny_call (enter_cell (binds := [("script", .ref sl)]) (news := [(sl, listOf xvs.toArray eps)]) (by intro p hp; rw [List.mem_singleton.mp hp]; exact hn) G (hA.le (by omega)) (by rfl) (by rfl) (.of_eq rfl) (by rfl) (by decide +kernel) fun h₁ tk0 cells F N Y => ?_)
  simp only [List.map_cons, List.map_nil] at F N Y
  k_cells Y
  simp only [List.cons_append, List.nil_append] at N
  obtain ⟨p, loose, mg, mb, T⟩ := G.t
  have X := G.k
  dsimp only at F N ⊢
  rename_i o1 o2 d1 d2
  replace d1 : o1.data = .cell none := d1
  replace d2 : o2.data = .cell none := d2
  replace F : Fr (hideAll s.heap [sl]) s.heap.objs.size h₁ (fun y => if y = Str.ofString "script" then some (.ref sl) else none) := F
  generalize hBB : hideAll s.heap [sl] = B at *
  generalize hLL : s.heap.objs.size = Lt at *
  have GB : Gl w B := by first | exact G | (rw [← hBB]; exact G)
  have hsl : sl < Lt := by rw [← hLL]; exact Heap.lt_size hn
  have hAd : ∀ env, Room (A.deeper env) 7 := fun env => hA.deeper env
  have hun : ∀ env, (A.deeper env).units < cLine := fun env => by have := (hAd env).un; omega
  k_steps
  refine comp_store (by rfl) (by rfl) (by decide) rfl (by decide) (by rfl) (by rfl) ?_
  k_steps
  rename Fr _ _ _ _ => F1
  rename News _ _ _ _ => N1
  refine slice_upto (b := 9) (s := ⟨_, _, _, _, _⟩) (vs := xvs) F1 N1 (by k_mem) (Nat.le_trans (by rw [← hx.length]; exact hxl) (Nat.le_of_ble_eq_true rfl)) fun Dc h2 F2 N2 l2 => ?_
  have hx9 := Paired.take' 9 hx
  have hx9l : (xvs.take 9).length ≤ 9 := List.length_take_le 9 xvs
  generalize xs.take 9 = x9 at hx9
  generalize xvs.take 9 = x9v at hx9 hx9l N2
  clear F1 N1
  k_steps
  rename Fr _ _ _ _ => F1
  rename News _ _ _ _ => N1
  refine src_list (items := x9v) hA.hd F1 N1 (lis_at N1 (by k_mem)) (le16 (by omega)) (fun i ys => IntsOf i ys) (fun _ _ _ _ _ _ _ _ => lot_name) ⟨[], .nil, rfl⟩
    (fun base C I D io i v h tk m₁ ys ep' hv hJ hID up F₁ N₁ => ?_) fun Dd h' tk dvs epd hJd F₁ N₁ hk hDd => ?_
  · obtain ⟨z, hzi, t, rfl⟩ := Paired.at' i hx9 hv
    obtain ⟨zs, hzs, hzl⟩ := hJ
    have G₂ := GB.keeps up
    clear T X F1 N1
    obtain ⟨p, loose, mg, mb, T⟩ := G₂.t
    have X := G₂.k
    unfold CompTurn
    k_steps
    refine askIfs_nil ?_
    rw [if_pos rfl]
    k_steps
    (any_goals (first | exact ("" : PySem.Str) | exact (0 : Nat) | exact PySem.Value.none | exact ([] : List (PySem.Str × PySem.Addr)) | skip))
    · exact ⟨zs ++ [_], hzs.snoc ⟨_, rfl⟩, by simp [hzl]⟩
    · exact ⟨_, _, _, rfl, (by assumption), (by assumption)⟩
  · refine ⟨⟨_, F₁.ns⟩, Store.of F₁ N₁ fun h₃ tk₃ F₃ N₃ => ?_⟩
    have hDd1 : Dd ≠ Lt + 1 := fun q => by
      have := (N1 (Lt + 1, o2) (by simp)).1
      rw [← q, show _ = none from hDd] at this; cases this
    clear F1 N1 F₁ N₁
    obtain ⟨zs, hzs, hzl⟩ := hJd
    have hdl : dvs.length = x9v.length := by rw [← hzs.length, hzl]
    have hd9 : dvs.length ≤ 9 := by omega
    replace N₃ := news_sub N₃ (news' := (Dd, listOf (List.toArray dvs) epd) :: (Lt + 1 + 1, o1) :: (Lt + 1, o2) :: (sl, listOf xvs.toArray eps) :: []) (by
      intro p hp; simp only [List.mem_cons, List.not_mem_nil, or_false] at hp ⊢; rcases hp with hp | hp | hp | hp <;> simp [hp])
    k_steps
    rename Fr _ _ _ _ => F1
    rename News _ _ _ _ => N1
    refine slice_from (a := dvs.length) (s := ⟨_, _, _, _, _⟩) F1 N1 (by k_mem) (le16 (by simp)) (by simp; omega) fun Dt h4 F4 N4 l4 => ?_
    have key : IntsOf (9 - dvs.length) (List.drop dvs.length [Value.int 22 (tk₃), Value.int 3 (tk₃ + 1), Value.int 5 (tk₃ + 1 + 1), Value.int 12 (tk₃ + 1 + 1 + 1), Value.int 8 (tk₃ + 1 + 1 + 1 + 1), Value.int 9 (tk₃ + 1 + 1 + 1 + 1 + 1), Value.int 10 (tk₃ + 1 + 1 + 1 + 1 + 1 + 1), Value.int 7 (tk₃ + 1 + 1 + 1 + 1 + 1 + 1 + 1), Value.int 4 (tk₃ + 1 + 1 + 1 + 1 + 1 + 1 + 1 + 1)]) := ⟨([22, 3, 5, 12, 8, 9, 10, 7, 4] : List Int).drop dvs.length, Paired.drop' _ (.cons ⟨_, rfl⟩ (.cons ⟨_, rfl⟩ (.cons ⟨_, rfl⟩ (.cons ⟨_, rfl⟩ (.cons ⟨_, rfl⟩ (.cons ⟨_, rfl⟩ (.cons ⟨_, rfl⟩ (.cons ⟨_, rfl⟩ (.cons ⟨_, rfl⟩ .nil))))))))), by simp⟩
    generalize List.drop dvs.length [Value.int 22 (tk₃), Value.int 3 (tk₃ + 1), Value.int 5 (tk₃ + 1 + 1), Value.int 12 (tk₃ + 1 + 1 + 1), Value.int 8 (tk₃ + 1 + 1 + 1 + 1), Value.int 9 (tk₃ + 1 + 1 + 1 + 1 + 1), Value.int 10 (tk₃ + 1 + 1 + 1 + 1 + 1 + 1), Value.int 7 (tk₃ + 1 + 1 + 1 + 1 + 1 + 1 + 1), Value.int 4 (tk₃ + 1 + 1 + 1 + 1 + 1 + 1 + 1 + 1)] = drv at N4 key
    clear F1 N1
    obtain ⟨zs2, hzs2, hzl2⟩ := key
    have hdr : drv.length = 9 - dvs.length := by rw [← hzs2.length, hzl2]
    refine kmk_add_lit (s := ⟨_, _, _, _, _⟩) (a := Dd) (b := Dt) (its := List.toArray dvs) (its2 := List.toArray drv) (zs := dvs ++ drv) F4 N4 (lis_at (n := epd) N4 (by simp)) (lis_at (n := 0) N4 (by simp)) rfl (fun cl h5 F5 N5 lc => ?_) (le16 (by simp only []; omega))
    have hcells := Paired.append' hzs hzs2
    have hcl9 : (zs ++ zs2).length = 9 := by rw [List.length_append, hzl2, hzs.length]; omega
    generalize zs ++ zs2 = cz at hcells hcl9
    have hlc1 : Lt + 1 < cl := lc (Lt + 1, o2) (by simp)
    have hlc2 : Lt + 1 + 1 < cl := lc (Lt + 1 + 1, o1) (by simp)
    replace N5 := news_sub N5 (news' := (cl, listOf (List.toArray (dvs ++ drv)) 0) :: (Lt + 1 + 1, o1) :: (Lt + 1, o2) :: (sl, listOf xvs.toArray eps) :: []) (by
      intro p hp; simp only [List.mem_cons, List.not_mem_nil, or_false] at hp ⊢; rcases hp with hp | hp | hp | hp <;> simp [hp])
    generalize dvs ++ drv = cvs at hcells N5
    clear F4 N4
    have hcvl : cvs.length = 9 := by rw [← hcells.length, hcl9]
    obtain ⟨z0, tz0, hz0⟩ : ∃ z t, cvs[0]? = some (.int z t) := by
      have h1 : 0 < cvs.length := by omega
      obtain ⟨a, -, t, ht⟩ := Paired.at' 0 hcells (List.getElem?_eq_getElem h1)
      exact ⟨a, t, by rw [List.getElem?_eq_getElem h1, ht]⟩
    k_steps
    have hf0 := Int.fmod_nonneg_of_pos z0 (show (0 : Int) < 4 by omega)
    have hf1 := Int.fmod_lt_of_pos z0 (show (0 : Int) < 4 by omega)
    obtain ⟨n, hnn, hn5, hn8⟩ : ∃ n : Nat, 5 + z0.fmod 4 = (n : Int) ∧ 5 ≤ n ∧ n ≤ 8 := ⟨(5 + z0.fmod 4).toNat, by omega, by omega, by omega⟩
    have hst0 := Int.fmod_nonneg_of_pos (z0.fdiv 4) (show (0 : Int) < 9 by omega)
    have hst1 := Int.fmod_lt_of_pos (z0.fdiv 4) (show (0 : Int) < 9 by omega)
    obtain ⟨st, hst, hst8⟩ : ∃ st : Nat, (z0.fdiv 4).fmod 9 = (st : Int) ∧ st ≤ 8 := ⟨((z0.fdiv 4).fmod 9).toNat, by omega, by omega⟩
    rename News _ _ _ _ => N1
    refine list_item (k := 0) (vs := cvs) N1 (by k_mem) (by rfl) (by omega) hz0 ?_
    k_steps
    rename Fr _ _ _ _ => F1
    rename News _ _ _ _ => N1
    rename _ = Data.cell (some (Value.int _ _)) => d2
    simp only [List.cons_append, List.nil_append] at N1
    rw [hnn]
    rename Obj => oc
    obtain ⟨tq, dct⟩ : ∃ t, oc.data = Data.cell (some (Value.int (n : Int) t)) := ⟨_, by rw [d2, hnn]⟩
    clear d2
    have mcl := N1 (cl, listOf (List.toArray cvs) 0) (by simp)
    refine row_spec (zs := cz) (zvs := cvs) (n := n) hcells hcl9 hn5 hn8 mcl.1 (GB.keeps (up_hide (news := [(cl, listOf (List.toArray cvs) 0)]) F1 fun p hp => by rw [List.mem_singleton.mp hp]; exact mcl)) ((hAd _).le (by omega)) (fun rl row rvs epr h6 tk6 hperm hrow hk6 hrl hrl0 => ?_)
    have N6 := news_app (news_new F1 hrl0 hrl) (news_keeps N1 hk6)
    have F6 := fr_keeps F1 hk6
    have hrl1 : rl ≠ Lt + 1 + 1 := fun q => by
      have := (N1 (Lt + 1 + 1, o1) (by simp)).1
      rw [← q, show _ = none from hrl0] at this; cases this
    simp only [List.cons_append, List.nil_append] at N6
    clear F1 N1
    dsimp only
    k_steps
    rename Obj => orw
    rename _ = Data.cell (some (Value.ref _)) => drw
    rename News _ _ _ _ => N1
    simp only [List.cons_append, List.nil_append] at N1
    refine list_item (k := 0) (vs := cvs) N1 (by k_mem) (by rfl) (by omega) hz0 ?_
    k_steps
    rw [hst]
    have hrc : ∀ c ∈ row, c < 8 := fun c hc => by have := List.mem_range.mp (hperm.mem_iff.mp hc); omega
    have hrln : row.length = n := by rw [hperm.length_eq, List.length_range]
    rename Fr _ _ _ _ => F1
    rename News _ _ _ _ => N1
    have mrl := N1 (rl, listOf (List.toArray rvs) epr) (by simp)
    refine faces_spec (row := row) (rvs := rvs) (st := st) hrow hrc (by omega) hst8 mrl.1 (GB.keeps (up_hide (news := [(rl, listOf (List.toArray rvs) epr)]) F1 fun p hp => by rw [List.mem_singleton.mp hp]; exact mrl)) ((hAd _).le (by omega)) (fun fl fvs epf h7 tk7 hfv hk7 hfl hfl0 => ?_)
    have N7 := news_app (news_new F1 hfl0 hfl) (news_keeps N1 hk7)
    have F7 := fr_keeps F1 hk7
    simp only [List.cons_append, List.nil_append] at N7
    clear F1 N1
    dsimp only
    k_steps
    rename Fr _ _ _ _ => F1
    rename News _ _ _ _ => N1
    generalize hcs : row.map (fun x => st + x) = cs at hfv
    have hcsl : cs.length = n := by rw [← hcs, List.length_map, hrln]
    have hcs16 : ∀ c ∈ cs, c < 16 := by
      intro c hc
      rw [← hcs] at hc
      obtain ⟨x, hx, rfl⟩ := List.mem_map.mp hc
      have := hrc x hx
      show st + x < 16
      omega
    have mfl := N1 (fl, listOf (List.toArray fvs) epf) (by simp)
    refine tables_spec (cs := cs) (fvs := fvs) hfv hcs16 (by omega) (by omega) mfl.1 (GB.keeps (up_hide (news := [(fl, listOf (List.toArray fvs) epf)]) F1 fun p hp => by rw [List.mem_singleton.mp hp]; exact mfl)) ((hAd _).le (by omega)) hall (fun tb ept tabs h8 tk8 g8 htabs hk8 htb htb0 hbare8 => ?_)
    have N8 := news_app (news_new F1 htb0 htb) (news_keeps N1 hk8)
    have F8 := fr_keeps F1 hk8
    obtain ⟨cn, N8', -, hcov⟩ := cover F8 N8
    simp only [List.cons_append, List.nil_append] at N8'
    have hlive : ∀ (base : Heap) (C : Addr) (h : Heap) (m' : Str → Option Value) (nw : List (Addr × Obj)), (∀ b o, B.get? b = some o → base.get? b = some o) → Fr base C h m' → News base C h nw → (∀ p ∈ (tb, listOf (List.toArray tabs) ept) :: (fl, listOf (List.toArray fvs) epf) :: (rl, listOf (List.toArray rvs) epr) :: (cl, listOf (List.toArray cvs) 0) :: (Lt + 1 + 1, orw) :: (Lt + 1, oc) :: (sl, listOf xvs.toArray eps) :: cn, p ∈ nw) → ∀ b o, isSeq o → h8.get? b = some o → h.get? b = some o := by
      intro base C h m' nw hup F N hsub b o hs e
      have hbL : b ≠ Lt := fun q => by
        obtain ⟨oL, es, ep, hoL, hdL, -⟩ := F8.ns
        rw [q] at e
        have hoL' : h8.get? Lt = some oL := hoL
        rw [hoL'] at e; cases e
        obtain ⟨a, k, hs⟩ := hs
        rw [hdL] at hs; cases hs
      rcases hcov b o hbL e with ⟨o', q1, q2⟩ | q | q
      · have e' : h8.get? b = some o' := q2
        rw [e'] at e; cases e
        exact F.keep _ _ (hup _ _ q1)
      · exact (N (b, o) (hsub _ (by simpa using List.mem_append_left cn q))).1
      · exact (N (b, o) (hsub _ (by simp [q]))).1
    clear F1 N1 N8
    dsimp only
    k_steps
    have htl8 : tabs.length ≤ sizeLine := by
      rw [← htabs.length]
      have := tabsUpTo_len (cs := cs) (by omega) (cs.length - 1)
      have h40 : (tabsUpTo cs (cs.length - 1)).length ≤ 40 := by omega
      exact Nat.le_trans h40 (Nat.le_of_ble_eq_true rfl)
    refine comp_store (by rfl) (by rfl) (by decide) rfl (by decide) (by rfl) (by rfl) ?_
    k_steps
    rename Fr _ _ _ _ => F1
    rename News _ _ _ _ => N1
    refine src_list (items := tabs) hA.hd F1 N1 (lis_at N1 (by k_mem)) htl8 (fun i ys => Paired NatV (((tabsUpTo cs (cs.length - 1)).take i).map (·.size)) ys) (fun _ _ _ _ _ _ _ => lot_tuple) .nil
      (fun base C I D io i v h tk m₁ ys ep' hv hJ hID up F₁ N₁ => ?_) fun Dt2 h' tk tvs ept2 hJt F₁ N₁ hk hDt => ?_
    · obtain ⟨r, hri, ht⟩ := Paired.at' i htabs hv
      obtain ⟨T0, t0, a0, b0, c0, rfl, hT, hTa, hTb, hTc⟩ := ht.live (hlive base C h m₁ _ up F₁ N₁ fun p hp => .tail _ (.tail _ hp))
      have G₂ := GB.keeps up
      clear T X F1 N1
      obtain ⟨p, loose, mg, mb, T⟩ := G₂.t
      have X := G₂.k
      unfold CompTurn
      refine unpackN_ F₁ N₁ hT hA.hd rfl rfl fun h' F₂ N₂ => ?_
      clear F₁ N₁
      k_steps
      refine askIfs_nil ?_
      rw [if_pos rfl]
      k_steps
      (any_goals (first | exact ("" : PySem.Str) | exact (0 : Nat) | exact PySem.Value.none | exact ([] : List (PySem.Str × PySem.Addr)) | skip))
      · show Paired _ _ _
        rw [List.take_add_one, hri, List.map_append]
        exact hJ.snoc ⟨_, rfl⟩
      · exact ⟨_, _, _, rfl, (by assumption), (by assumption)⟩
    · refine ⟨⟨_, F₁.ns⟩, Store.of F₁ N₁ fun h₃ tk₃ F₃ N₃ => ?_⟩
      rw [← htabs.length, List.take_length] at hJt
      clear F1 N1 F₁ N₁
      k_steps
      refine nest_eval (n := n - 1) (a := 2) (b := (n : Int) + 1) (cnt := fun j => n / (2 + j)) hA.hd (by rfl) (by decide) rfl (by decide) (fun _ => by rfl) (fun _ => by rfl) (by decide) (by decide) (fun _ => by rfl) (fun _ _ => by rfl) (fun i => Nat.le_trans (Nat.div_le_self ..) hn8) (by omega) (rng_ok hn5 hn8).1 (rng_ok hn5 hn8).2 ?_
      k_steps
      rename Fr _ _ _ _ => F1
      rename News _ _ _ _ => N1
      rename IsRange _ _ _ _ _ _ _ _ => hR
      refine ⟨B, Lt, _, _, _, _, _, _, rfl, hR, F1, N1, fun base C i t h tk m₁ q₁ q₂ hi up F₂ N₂ => ?_, fun D h' tk ys ep hys F₂ N₂ hk hD => ?_⟩
      · have G₂ := GB.keeps up
        clear T X F1 N1 hR
        obtain ⟨p, loose, mg, mb, T⟩ := G₂.t
        have X := G₂.k
        k_steps
        (any_goals (first | exact ("" : PySem.Str) | exact (0 : Nat) | exact PySem.Value.none | exact ([] : List (PySem.Str × PySem.Addr)) | skip))
        rename Fr _ _ _ _ => F1
        rename News _ _ _ _ => N1
        rename IsRange _ _ _ _ _ _ _ _ => hR
        have e : (n : Int).fdiv (2 + (i : Int)) = ((n / (2 + i) : Nat) : Int) := by
          rw [Int.fdiv_eq_ediv_of_nonneg _ (by omega)]
          simp
        rw [e] at hR
        exact ⟨_, _, _, _, _, _, rfl, rfl, hR, F1, N1⟩
      · dsimp only at hk hD F₂ N₂ ⊢
        refine ne_lists (R := IntV) (xs := (toldOf n).map fun (k : Nat) => (k : Int)) (ys := (List.range (n - 1)).flatMap fun j => List.replicate (n / (2 + j)) (2 + (j : Int))) (vs := tvs) (ws := ys) ?_ hys (fun A' a b v w _ _ => eqv_int A' _ a b v w) (lis_at N₂ (by k_mem)) (lis_at N₂ (by k_mem)) (hun _) ?_
        · rw [← hcsl, ← told_is]
          exact paired_ints hJt
        · rw [show (List.map (fun (k : Nat) => (k : Int)) (toldOf n)) = (List.range (n - 1)).flatMap fun j => List.replicate (n / (2 + j)) (2 + (j : Int)) by
            unfold toldOf
            rw [List.map_flatMap]
            congr 1
            funext j
            rw [List.map_replicate]
            congr 1]
          rw [decide_eq_true rfl, Bool.not_true]
          have N5 : News B Lt h' ((Dt2, listOf (List.toArray tvs) ept2) :: (tb, listOf (List.toArray tabs) ept) :: (fl, listOf (List.toArray fvs) epf) :: (rl, listOf (List.toArray rvs) epr) :: (cl, listOf (List.toArray cvs) 0) :: (Lt + 1 + 1, orw) :: (Lt + 1, oc) :: (sl, listOf xvs.toArray eps) :: cn) := news_sub N₂ fun p hp => .tail _ hp
          clear N₂ hk hD hys
          k_steps
          refine comp_store (by rfl) (by rfl) (by decide) rfl (by decide) (by rfl) (by rfl) ?_
          k_steps
          rename Fr _ _ _ _ => F1
          rename News _ _ _ _ => N1
          refine src_list (items := tabs) hA.hd F1 N1 (lis_at N1 (by k_mem)) htl8 (fun i ys => Paired BoolV (((tabsUpTo cs (cs.length - 1)).take i).map fun r => decide (r.given = r.group)) ys) (fun _ _ _ _ _ _ _ => lot_tuple) .nil
            (fun base C I D io i v h tk m₁ ys ep' hv hJ hID up F₁ N₁ => ?_) fun Dw h' tk wvs epw hJw F₁ N₁ hk hDw => ?_
          · obtain ⟨r, hri, ht⟩ := Paired.at' i htabs hv
            obtain ⟨T0, t0, a0, b0, c0, rfl, hT, ⟨ga, ea, ha1, ha2⟩, ⟨gb, eb, hb1, hb2⟩, ⟨gc, ec, hc1, hc2⟩⟩ := ht
            have G₂ := GB.keeps up
            clear T X F1 N1
            obtain ⟨p, loose, mg, mb, T⟩ := G₂.t
            have X := G₂.k
            unfold CompTurn
            refine unpackN_ F₁ N₁ (tup_live hT fun o ho => hlive base C h m₁ _ up F₁ N₁ (fun p hp => .tail _ (.tail _ (.tail _ hp))) _ _ ho) hA.hd rfl rfl fun h' F₂ N₂ => ?_
            clear F₁ N₁
            k_steps
            refine askIfs_nil ?_
            rw [if_pos rfl]
            k_steps
            (any_goals (first | exact ("" : PySem.Str) | exact (0 : Nat) | exact PySem.Value.none | exact ([] : List (PySem.Str × PySem.Addr)) | skip))
            rename Fr _ _ _ _ => F5
            rename News _ _ _ _ => N5
            have hsml := tab_small hcs16 (List.mem_of_getElem? hri)
            refine eq_lists (R := SgV) (xs := r.given) (ys := r.group) (vs := gb) (ws := ga) hb2 ha2 (fun A' a b v w ha hb => eqv_sg A' _ a b v w (hsml.2.1 a ha) (hsml.1 b hb)) ⟨_, hlive base C _ _ _ up F5 N5 (fun p hp => .tail _ (.tail _ (.tail _ hp))) _ _ ⟨_, _, rfl⟩ hb1, rfl, _, rfl⟩ ⟨_, hlive base C _ _ _ up F5 N5 (fun p hp => .tail _ (.tail _ (.tail _ hp))) _ _ ⟨_, _, rfl⟩ ha1, rfl, _, rfl⟩ (hun _) ?_
            refine ⟨?_, _, _, _, rfl, F5, N5⟩
            show Paired _ _ _
            rw [List.take_add_one, hri, List.map_append]
            exact hJ.snoc rfl
          · refine ⟨⟨_, F₁.ns⟩, Store.of F₁ N₁ fun h₃ tk₃ F₃ N₃ => ?_⟩
            rw [← htabs.length, List.take_length] at hJw
            clear F1 N1 F₁ N₁
            k_steps
            refine comp_store (by rfl) (by rfl) (by decide) rfl (by decide) (by rfl) (by rfl) ?_
            k_steps
            rename Fr _ _ _ _ => F1
            rename News _ _ _ _ => N1
            refine src_list (items := tabs) hA.hd F1 N1 (lis_at N1 (by k_mem)) htl8 (fun i ys => Paired BoolV (((tabsUpTo cs (cs.length - 1)).take i).map fun r => decide (r.held = r.group)) ys) (fun _ _ _ _ _ _ _ => lot_tuple) .nil
              (fun base C I D io i v h tk m₁ ys ep' hv hJ hID up F₁ N₁ => ?_) fun Dq h' tk qvs epq hJq F₁ N₁ hk hDq => ?_
            · obtain ⟨r, hri, ht⟩ := Paired.at' i htabs hv
              obtain ⟨T0, t0, a0, b0, c0, rfl, hT, ⟨ga, ea, ha1, ha2⟩, ⟨gb, eb, hb1, hb2⟩, ⟨gc, ec, hc1, hc2⟩⟩ := ht
              have G₂ := GB.keeps up
              clear T X F1 N1
              obtain ⟨p, loose, mg, mb, T⟩ := G₂.t
              have X := G₂.k
              unfold CompTurn
              refine unpackN_ F₁ N₁ (tup_live hT fun o ho => hlive base C h m₁ _ up F₁ N₁ (fun p hp => .tail _ (.tail _ (.tail _ (.tail _ hp)))) _ _ ho) hA.hd rfl rfl fun h' F₂ N₂ => ?_
              clear F₁ N₁
              k_steps
              refine askIfs_nil ?_
              rw [if_pos rfl]
              k_steps
              (any_goals (first | exact ("" : PySem.Str) | exact (0 : Nat) | exact PySem.Value.none | exact ([] : List (PySem.Str × PySem.Addr)) | skip))
              rename Fr _ _ _ _ => F5
              rename News _ _ _ _ => N5
              have hsml := tab_small hcs16 (List.mem_of_getElem? hri)
              refine eq_lists (R := SgV) (xs := r.held) (ys := r.group) (vs := gc) (ws := ga) hc2 ha2 (fun A' a b v w ha hb => eqv_sg A' _ a b v w (hsml.2.2 a ha) (hsml.1 b hb)) ⟨_, hlive base C _ _ _ up F5 N5 (fun p hp => .tail _ (.tail _ (.tail _ (.tail _ hp)))) _ _ ⟨_, _, rfl⟩ hc1, rfl, _, rfl⟩ ⟨_, hlive base C _ _ _ up F5 N5 (fun p hp => .tail _ (.tail _ (.tail _ (.tail _ hp)))) _ _ ⟨_, _, rfl⟩ ha1, rfl, _, rfl⟩ (hun _) ?_
              refine ⟨?_, _, _, _, rfl, F5, N5⟩
              show Paired _ _ _
              rw [List.take_add_one, hri, List.map_append]
              exact hJ.snoc rfl
            · refine ⟨⟨_, F₁.ns⟩, Store.of F₁ N₁ fun h₃ tk₃ F₃ N₃ => ?_⟩
              rw [← htabs.length, List.take_length] at hJq
              clear F1 N1 F₁ N₁
              k_steps
              refine comp_store (by rfl) (by rfl) (by decide) rfl (by decide) (by rfl) (by rfl) ?_
              k_steps
              rename Fr _ _ _ _ => F1
              rename News _ _ _ _ => N1
              rename IsRange _ _ _ _ _ _ _ _ => hR
              refine src_range (n := n - 1) hA.hd F1 N1 hR (rng1_ok hn5 hn8).1 (rng1_ok hn5 hn8).2 (le8 (by omega)) (fun i ys => Paired NatV (tornTo row i) ys) .nil
                (fun base C I D io i v h tk m₁ ys ep t hi hv hJ hID up F₂ N₂ => ?_) fun Dk h' tk tnv epk hJk F₁ N₁ hk hDk => ?_
              · have G₂ := GB.keeps up
                clear T X F1 N1 hR
                obtain ⟨p, loose, mg, mb, T⟩ := G₂.t
                have X := G₂.k
                unfold CompTurn
                subst hv
                k_steps
                refine askIfs_one ?_
                k_steps
                (any_goals (first | exact ("" : PySem.Str) | exact (0 : Nat) | exact PySem.Value.none | exact ([] : List (PySem.Str × PySem.Addr)) | skip))
                rename Fr _ _ _ _ => F5
                rename News _ _ _ _ => N5
                rw [show (1 : Int) + (i : Int) + 1 = ((i + 2 : Nat) : Int) by omega]
                refine slice_upto (b := i + 2) (s := ⟨_, _, _, _, _⟩) (vs := rvs) F5 N5 (by k_mem) (le16 (by rw [← hrow.length]; omega)) fun D1 h6 F6 N6 l6 => ?_
                have hrt := ints_of (Paired.take' (i + 2) hrow)
                have hrtl : 0 < ((row.take (i + 2)).map fun (k : Nat) => (k : Int)).length := by simp; omega
                clear F5 N5
                k_steps
                (any_goals (first | exact ("" : PySem.Str) | exact (0 : Nat) | exact PySem.Value.none | exact ([] : List (PySem.Str × PySem.Addr)) | skip))
                rename Fr _ _ _ _ => F5
                rename News _ _ _ _ => N5
                refine kso_max F5 N5 (lis_at N5 (by k_mem)) hrt hrtl hA.hd fun h7 M tM tkM F7 N7 hM1 hM2 => ?_
                have eM := maxL_is hM1 hM2
                subst eM
                clear F5 N5
                k_steps
                (any_goals (first | exact ("" : PySem.Str) | exact (0 : Nat) | exact PySem.Value.none | exact ([] : List (PySem.Str × PySem.Addr)) | skip))
                rename Fr _ _ _ _ => F5
                rename News _ _ _ _ => N5
                rw [show (1 : Int) + (i : Int) + 1 = ((i + 2 : Nat) : Int) by omega]
                refine slice_upto (b := i + 2) (s := ⟨_, _, _, _, _⟩) (vs := rvs) F5 N5 (by k_mem) (le16 (by rw [← hrow.length]; omega)) fun D2 h8 F8 N8 l8 => ?_
                clear F5 N5
                k_steps
                (any_goals (first | exact ("" : PySem.Str) | exact (0 : Nat) | exact PySem.Value.none | exact ([] : List (PySem.Str × PySem.Addr)) | skip))
                rename Fr _ _ _ _ => F5
                rename News _ _ _ _ => N5
                refine kso_min F5 N5 (lis_at N5 (by k_mem)) hrt hrtl hA.hd fun h9 M tm tkm F9 N9 hm1 hm2 => ?_
                have em := minL_is hm1 hm2
                subst em
                clear F5 N5
                k_steps
                (any_goals (first | exact ("" : PySem.Str) | exact (0 : Nat) | exact PySem.Value.none | exact ([] : List (PySem.Str × PySem.Addr)) | skip))
                · exact torn_yes hJ (by assumption)
                · exact ⟨_, _, _, rfl, F9, news_sub N9 fun p hp => .tail _ (.tail _ hp)⟩
                · exact torn_no hJ (by assumption)
                · exact ⟨_, _, _, rfl, F9, news_sub N9 fun p hp => .tail _ (.tail _ hp)⟩
              · refine ⟨⟨_, F₁.ns⟩, Store.of F₁ N₁ fun h₃ tk₃ F₃ N₃ => ?_⟩
                obtain ⟨hp1, hp2, hp3⟩ := plain (st := st) hperm hn5
                rw [hcs] at hp1 hp2 hp3
                change Paired NatV (tornOf n row) tnv at hJk
                change Paired BoolV (wholeOf cs) wvs at hJw
                change Paired BoolV (keptOf cs) qvs at hJq
                clear F1 N1 F₁ N₁ hR
                k_steps
                (any_goals (first | exact ("" : PySem.Str) | exact (0 : Nat) | exact PySem.Value.none | exact ([] : List (PySem.Str × PySem.Addr)) | skip))
                rename Fr _ _ _ _ => F1
                rename News _ _ _ _ => N1
                refine eq_lists (R := BoolV) hJw hJq (fun A' a b v w _ _ => eqv_bool A' _ a b v w) (lis_at N1 (by k_mem)) (lis_at N1 (by k_mem)) (hun _) ?_
                rw [decide_eq_true hp1]
                k_steps
                (any_goals (first | exact ("" : PySem.Str) | exact (0 : Nat) | exact PySem.Value.none | exact ([] : List (PySem.Str × PySem.Addr)) | skip))
                refine notIn_bools hJw (lis_at N1 (by k_mem)) ?_
                rw [hp2]
                k_steps
                (any_goals (first | exact ("" : PySem.Str) | exact (0 : Nat) | exact PySem.Value.none | exact ([] : List (PySem.Str × PySem.Addr)) | skip))
                rename Fr _ _ _ _ => F5
                rename News _ _ _ _ => N5
                refine eq_lists (R := NatV) (xs := tornOf n row) (ys := []) (vs := tnv) (ws := []) hJk .nil (fun A' a b v w _ _ => eqv_nat A' _ a b v w) (lis_at N5 (by k_mem)) (lis_at (vs := []) N5 (by k_mem)) (hun _) ?_
                generalize hdq : decide (tornOf n row = []) = dq at hp2 hp3 ⊢
                k_steps
                (any_goals (first | exact ("" : PySem.Str) | exact (0 : Nat) | exact PySem.Value.none | exact ([] : List (PySem.Str × PySem.Addr)) | skip))
                · rename Fr _ _ _ _ => F5
                  rename News _ _ _ _ => N5
                  have mfl5 := N5 (fl, listOf (List.toArray fvs) epf) (by simp)
                  refine apart_spec (cs := cs) (fvs := fvs) hfv hcs16 (by omega) (by omega) mfl5.1 (GB.keeps (up_hide (news := [(fl, listOf (List.toArray fvs) epf)]) F5 fun p hp => by rw [List.mem_singleton.mp hp]; exact mfl5)) ((hAd _).le (by omega)) (fun h10 tk10 hk10 => ?_)
                  rw [hp3]
                  have F6 := fr_keeps F5 hk10
                  have N6 := news_keeps N5 hk10
                  clear F5 N5
                  dsimp only
                  k_steps
                  (any_goals (first | exact ("" : PySem.Str) | exact (0 : Nat) | exact PySem.Value.none | exact ([] : List (PySem.Str × PySem.Addr)) | skip))
                  rename Fr _ _ _ _ => F7
                  rename News _ _ _ _ => N7
                  refine eq_lists (R := NatV) (xs := tornOf n row) (ys := []) (vs := tnv) (ws := []) hJk .nil (fun A' a b v w _ _ => eqv_nat A' _ a b v w) (lis_at N7 (by k_mem)) (lis_at (vs := []) N7 (by k_mem)) (hun _) ?_
                  rw [hdq]
                  k_steps
                  (any_goals (first | exact ("" : PySem.Str) | exact (0 : Nat) | exact PySem.Value.none | exact ([] : List (PySem.Str × PySem.Addr)) | skip))
                  rename Fr _ _ _ _ => F8
                  rename News _ _ _ _ => N8
                  rw [show (dq == dq) = true by simp]
                  refine ret _ _ _ (fun b o e => ?_) hbare8
                  by_cases q : b = sl
                  · rw [q] at e ⊢
                    rw [hn] at e; cases e
                    exact (N8 (sl, listOf xvs.toArray eps) (by simp)).1
                  · refine F8.keep b o ?_
                    rw [← hBB]
                    exact hideAll_get _ e (by simpa using q)
                · rename (dq == dq) = false => hq
                  simp at hq
end
end Mine
end
open PySem PySem.W PySem.Calls PyProof.Rows
set_option maxRecDepth 100000
namespace Mine
theorem nolist : ∀ P, ((Mine.mk.heap_1 P).all fun x => match x.2.cls with | .type "list" => false | _ => true) = true := fun _ => by kernel_rfl
theorem mem_lookup {α : Type} {a : Addr} {o : α} : ∀ {K : List (Addr × α)}, K.lookup a = some o → (a, o) ∈ K
  | [], h => by cases h
  | (b, p) :: K, h => by
    rw [List.lookup_cons] at h
    cases q : a == b with
    | true =>
      rw [q] at h
      rw [show a = b from eq_of_beq q, ← Option.some.inj h]; exact .head _
    | false =>
      rw [q] at h
      exact .tail _ (mem_lookup h)
theorem ns_ne {h : Heap} {a l : Addr} {m : Str → Option Value} {its : Array Value} {n : Nat} (N : h.Ns a m) (hl : h.get? l = some (W.listOf its n)) : (hideAll h [l]).Ns a m := N.at' fun o e => hideAll_get _ e fun q => by
  obtain ⟨o', es, ep, h1, h2, -⟩ := N
  rw [List.mem_singleton.mp q, hl] at h1
  cases h1
  cases h2
theorem Gl.list {w : World} {h : Heap} {l : Addr} {its : Array Value} {n : Nat} (G : Gl w h) (hl : h.get? l = some (W.listOf its n)) : Gl w (hideAll h [l]) := by
  refine ⟨fun a o e => hideAll_get _ (G.k a o e) fun q => ?_, ?_⟩
  · have h1 := G.k a o e
    rw [List.mem_singleton.mp q, hl] at h1
    have h2 := List.all_eq_true.mp (nolist w.params) _ (mem_lookup e)
    rw [← Option.some.inj h1] at h2
    simp at h2
  · obtain ⟨p, loose, mg, mb, T⟩ := G.t
    refine ⟨p, loose, mg, mb, ns_ne T.g hl, ns_ne T.b hl, ?_, T.builtins, T.free⟩
    obtain ⟨mc, a, b⟩ := T.nolimit
    exact ⟨mc, ns_ne a hl, b⟩
theorem paired_of {vs : List Value} {ns : List Int} (h : IntsAre vs ns) : Paired IntV ns vs := by
  induction h with
  | nil => exact .nil
  | cons n t _ ih => exact .cons ⟨t, rfl⟩ ih
theorem callerRoom : Room callerA 8 := ⟨rfl, by decide +kernel, by decide +kernel⟩
end Mine
set_option maxHeartbeats 8000000 in
theorem PySem.Challenge.cw_we0030_01_holds : PySem.Challenge.rw_we0030_01.Holds := by
  refine holds_law Mine.said fun said => ?_
  refine holds_open (q := Mine.vw) (loose := Mine.ls) (Xt := Mine.xt) (XP := XL Mine.vw []) (Yf := Hook.obs Mine.hk) (Ya := Hook.val Mine.hk) (YP := Hook.says Mine.hk) (N := 5382) Mine.left (Hook.of Mine.hk) (Hook.keeps Mine.hk) (fun s e => xl_of s (Bool.and_eq_true_iff.mp e).1) XL.keeps (by rfl) (by rfl) (by rfl) (fun s e => recFacts_of (Bool.and_eq_true_iff.mp e).2) (by rfl) said (by decide +kernel) ⟨rfl, rfl, rfl, rfl, rfl, by decide +kernel⟩ ?hw ?hc
  case hw => w_witness2
  case hc =>
    intro w s₀ s₁ mg mb G Y fa o pm cd doc dV kV ho hd hcd hD hmg hg args vals as hpre hlay hrd hwl hlo
    have KX := kIn_of Y
    refine Ground.open G ?_
    intro T B D TE TW
    have TR := topRead_of T
    have e1 := mg_of (n := Str.ofString "law") (v := .ref 233) KX TR.g (by k_is)
    have e2 : mg (Str.ofString "law") = some (.ref fa) := hmg
    rw [e1] at e2
    obtain rfl : 233 = fa := by cases e2; rfl
    have GL : Mine.Gl w s₁.heap := ⟨KX, _, _, _, _, TR⟩
    clear hd hcd hD hmg e2
    wrow_args hpre hlay hrd hwl hlo
    rename Heap.IsList _ _ _ => hL
    rename IntsAre _ _ => hI
    rename Well _ _ _ _ => hW
    rename List Int => xs
    rename List Value => vs
    rename ¬ _ < _ => hlen
    have hW' : Well w.params s₁.heap _ (.list (ofPys (xs.map PyData.int))) := hW
    cases hW' with
    | list hl hwa =>
      obtain ⟨o2, h1, h2, n2, h3⟩ := hL
      rw [hl] at h1
      cases h1
      cases h3
      refine Mine.law_spec (Mine.paired_of hI) (by omega) hl (Mine.Gl.list GL hl) Mine.callerRoom (by rw [hg]; intro x hx; simp at hx) fun h' tk' g' hk hb => ?_
      refine ⟨.inl ⟨_, .bool true, [], rfl, fun _ => rfl, .bool _, ?_, fun _ => ⟨List.nodup_nil, fun _ hx => by cases hx⟩⟩, .of_keep hk, rfl, hb⟩
      first | with_unfolding_all rfl | kernel_rfl
