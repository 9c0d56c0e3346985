import PyProof.Rows.All
import Wide.All
import OpenK.AllK
import Wide.FinOn
import KE.KIntText
import PyProof.StrLawsReplace
import KE.BytesMake
import Lean
import PySem.Challenge.RW_io0057_01
set_option Elab.async false
section
open PySem PySem.W PyProof.Rows PySem.Calls
set_option Elab.async false
namespace Mine

/-! ### the text's own defs, by their place in the text -/
def stmtAt (k : Nat) : Stmt := PySem.Challenge.pw_io0057_01.main.body.getD k (.Pass ⟨0, 0, 0, 0⟩)
def nameAt (k : Nat) : Str := match stmtAt k with | .FunctionDef n _ _ _ _ _ _ _ _ _ => n | _ => Str.ofString ""
def paramsAt (k : Nat) : Arguments := match stmtAt k with | .FunctionDef _ a _ _ _ _ _ _ _ _ => a | _ => ⟨[], [], none, [], [], none, []⟩
def bodyAt (k : Nat) : List Stmt := match stmtAt k with | .FunctionDef _ _ b _ _ _ _ _ _ _ => b | _ => []
def scopeAt (k : Nat) : Scope := match stmtAt k with | .FunctionDef _ _ _ _ _ _ sc _ _ _ => sc | _ => PySem.Challenge.pw_io0057_01.main.scope

def fdAt (k : Nat) (dflt pm cd : Value) : FuncData :=
  { name := nameAt k, qualname := nameAt k, params := paramsAt k, body := .stmts (bodyAt k), scope := scopeAt k, globals := mainGlobals, closure := [], defaults := dflt, kwdefaults := .none,
    doc := .none, pyModule := pm, annotations := none, code := cd, closureTuple := .none, builtins := builtinsNs }

/-- the def of the text's place k stands at f -/
def FnAt (h : Heap) (f : Addr) (k : Nat) (dflt : Value) : Prop :=
  ∃ o pm cd, h.get? f = some o ∧ o.data = .func (fdAt k dflt pm cd) ∧ h.CodeRec cd (nameAt k)

abbrev Kp (h h' : Heap) : Prop := ∀ b o, h.get? b = some o → h'.get? b = some o

theorem FnAt.keeps {h h' : Heap} {f : Addr} {k : Nat} {d : Value} (x : FnAt h f k d) (hk : Kp h h') : FnAt h' f k d :=
  let ⟨o, pm, cd, a, b, c⟩ := x
  ⟨o, pm, cd, hk _ _ a, b, c.keeps hk⟩

/-! ### the code's plain side -/
def safe (c : Nat) : Bool := (decide (65 ≤ c) && decide (c ≤ 90)) || (decide (97 ≤ c) && decide (c ≤ 122)) || (decide (48 ≤ c) && decide (c ≤ 57)) || c == 45 || c == 33 || c == 42 || c == 43 || c == 47
def hexd (d : Nat) : Nat := if d < 10 then 48 + d else 55 + d
def piece (c : Nat) : List Nat := if safe c then [c] else if c == 32 then [95] else [61, hexd (c / 16), hexd (c % 16)]
def txt (l : List Nat) : Str := ⟨l.toArray⟩

def rcode : Array Nat := #[14, 8, 1, 3, 3, 1, 1, 61, 0, 16, 61, 24, 16, 2, 2, 13, 11, 9, 0, 67043328, 126, 126, 0, 0, 0, 0, 0, 1, 1]
/-- the compiled pattern and its row of codes -/
def ReAt (h : Heap) : Prop := ∃ x t f u g n v cs k, h.get? 36 = some ⟨.type "re.Pattern", none, .fields #[.str x t, f, .int 0 u, g, n, .ref 35, .int 0 v], #[]⟩ ∧ h.get? 35 = some ⟨.type "tuple", none, .seq cs k, #[]⟩ ∧ (cs.map Builtin.Re.reRawOf).map (·.toNat) = rcode
theorem ReAt.keeps {h h' : Heap} (x : ReAt h) (hk : Kp h h') : ReAt h' :=
  let ⟨x, t, f, u, g, n, v, cs, k, a, b, c⟩ := x; ⟨x, t, f, u, g, n, v, cs, k, hk _ _ a, hk _ _ b, c⟩

/-- what the module's top leaves and what every call finds -/
structure Gl (mg mb : Str → Option Value) (h : Heap) : Prop where
  g : h.Ns mainGlobals mg
  b : h.Ns builtinsNs mb
  lim : h.NoLimit
  n_chr : mg (Str.ofString "chr") = none
  n_len : mg (Str.ofString "len") = none
  n_bytes : mg (Str.ofString "bytes") = none
  n_int : mg (Str.ofString "int") = none
  n_range : mg (Str.ofString "range") = none
  n_min : mg (Str.ofString "min") = none
  b_chr : mb (Str.ofString "chr") = some (.builtin "chr")
  b_len : mb (Str.ofString "len") = some (.builtin "len")
  b_bytes : mb (Str.ofString "bytes") = some (.type "bytes")
  b_int : mb (Str.ofString "int") = some (.type "int")
  b_range : mb (Str.ofString "range") = some (.type "range")
  b_min : mb (Str.ofString "min") = some (.builtin "min")
  v_check : mg (Str.ofString "header_check") = some (.ref 59)
  v_unquote : mg (Str.ofString "unquote") = some (.ref 66)
  v_encode : mg (Str.ofString "header_encode") = some (.ref 74)
  v_umatch : mg (Str.ofString "_unquote_match") = some (.ref 86)
  v_decode : mg (Str.ofString "header_decode") = some (.ref 93)
  v_octet : mg (Str.ofString "_law_octet") = some (.ref 100)
  v_fewest : mg (Str.ofString "_law_fewest") = some (.ref 107)
  v_map : mg (Str.ofString "_QUOPRI_HEADER_MAP") = some (.ref 44)
  v_re : mg (Str.ofString "_twin_re_1") = some (.ref 36)
  f_check : FnAt h 59 13 .none
  f_unquote : FnAt h 66 14 .none
  f_encode : FnAt h 74 15 (.ref 67)
  f_umatch : FnAt h 86 19 .none
  f_decode : FnAt h 93 20 .none
  f_octet : FnAt h 100 22 .none
  f_fewest : FnAt h 107 23 .none
  dflt : ∃ o t n, h.get? 67 = some o ∧ o.data = .seq #[.str (Str.ofString "iso-8859-1") t] n
  re : ReAt h
  cls : ∃ o, h.get? 86 = some o ∧ o.cls = .type "function" ∧ o.dict = none
  map : ∃ vs : Array Value, h.IsList 44 vs ∧ vs.size = 256 ∧ ∀ i, i < 256 → ∃ t, vs[i]? = some (.str (txt (piece i)) t)

theorem Gl.keeps {mg mb : Str → Option Value} {h h' : Heap} (G : Gl mg mb h) (hk : Kp h h') : Gl mg mb h' :=
  { G with g := G.g.keeps hk, b := G.b.keeps hk, lim := G.lim.keeps hk, f_check := G.f_check.keeps hk, f_unquote := G.f_unquote.keeps hk, f_encode := G.f_encode.keeps hk, f_umatch := G.f_umatch.keeps hk,
           f_decode := G.f_decode.keeps hk, f_octet := G.f_octet.keeps hk, f_fewest := G.f_fewest.keeps hk,
           dflt := let ⟨o, t, n, a, b⟩ := G.dflt; ⟨o, t, n, hk _ _ a, b⟩,
           re := G.re.keeps hk, cls := let ⟨o, a, b⟩ := G.cls; ⟨o, hk _ _ a, b⟩,
           map := let ⟨vs, a, b⟩ := G.map; ⟨vs, a.at fun o e => hk _ o e, b⟩ }

/-- the room a call needs -/
structure Rm (A : Around) (n : Nat) : Prop where
  hh : A.handled = none
  dp : A.depth + n < recursionLimit
  un : A.units + 8 * n < cLine
theorem Rm.deeper {A : Around} {n : Nat} {env : Env} (R : Rm A (n + 1)) : Rm (A.deeper env) n :=
  ⟨R.hh, by have := R.dp; show A.depth + 1 + n < _; omega, by have := R.un; show A.units + 3 + 8 * n < _; omega⟩
theorem Rm.in1 {A : Around} {n : Nat} (R : Rm A (n + 1)) : Rm A.in1 n := ⟨R.hh, by have := R.dp; show A.depth + n < _; omega, by have := R.un; show A.units + 1 + 8 * n < _; omega⟩
theorem Rm.less {A : Around} {n m : Nat} (R : Rm A n) (h : m ≤ n) : Rm A m := ⟨R.hh, by have := R.dp; omega, by have := R.un; omega⟩

section
variable {M : Model} {A : Around} {E : Value → Shared → Prop} {s : Shared} {env : Env} {x : Str} {pos : Pos} {v : Value} {Q : Value → Shared → Prop}
theorem nm_loc {m : Str → Option Value} (hn : s.heap.Ns env.locals m) (hv : m x = some v) (h : Q v s) (hk : env.scope.kind = .function) (hl : env.kindOf x = some .local)
    (hd : (x == ("__debug__" : Str)) = false := by decide +kernel) : wpAny M A (eval (.Name x pos) env) Q E s := wpAny_Name (wpAny_loadName_local hk hl hn hv h) hd
theorem nm_glob {mg : Str → Option Value} (hg : s.heap.Ns env.globals mg) (hv : mg x = some v) (h : Q v s) (hk : env.scope.kind = .function) (hl : env.kindOf x = some .globalImplicit)
    (hd : (x == ("__debug__" : Str)) = false := by decide +kernel) : wpAny M A (eval (.Name x pos) env) Q E s := Name_function_global hk hl (loadGlobal_global hg hv h) hd
theorem nm_blt {mg mb : Str → Option Value} (hg : s.heap.Ns env.globals mg) (hm : mg x = none) (hb : s.heap.Ns env.builtins mb) (hv : mb x = some v) (h : Q v s) (hk : env.scope.kind = .function)
    (hl : env.kindOf x = some .globalImplicit) (hd : (x == ("__debug__" : Str)) = false := by decide +kernel) : wpAny M A (eval (.Name x pos) env) Q E s :=
  Name_function_global hk hl (loadGlobal_builtin hg hm hb hv h) hd
end

section
variable {M : Model} {A : Around} {E : Value → Shared → Prop} {s : Shared} {env : Env} {x : Str} {v : Value} {Q : Unit → Shared → Prop}
theorem st_loc {m : Str → Option Value} (hn : s.heap.Ns env.locals m) (hk : env.scope.kind = .function) (hl : env.kindOf x = some .local)
    (h : ∀ h', h'.Ns env.locals (fun y => if y = x then some v else m y) → Heap.SameBut env.locals s.heap h' → Q () { s with heap := h', toks := s.toks + 1 }) : wpAny M A (storeName env x v) Q E s :=
  wpAny_storeName_local hl hn h (by rw [hk]; rfl)
end
/-- what stood ahead of the frame stands behind a store into the frame -/
theorem Kp.st {h₀ h h' : Heap} {L : Addr} (k : Kp h₀ h) (hL : h₀.objs.size ≤ L) (hs : Heap.SameBut L h h') : Kp h₀ h' :=
  fun b o e => hs.extBut b o (Nat.ne_of_lt (Nat.lt_of_lt_of_le (Heap.lt_size e) hL)) (k b o e)
theorem Kp.push {h₀ h : Heap} (k : Kp h₀ h) (o : Obj) : Kp h₀ (h.push o) := fun b x e => Heap.get?_push_of_some _ (k b x e)
theorem Kp.trans {h₀ h h' : Heap} (k : Kp h₀ h) (k' : Kp h h') : Kp h₀ h' := fun b x e => k' b x (k b x e)
theorem Kp.refl (h : Heap) : Kp h h := fun _ _ e => e

section
variable {prog : Program} {w : World} {A : Around} {E : Value → Shared → Prop} {s : Shared} {Q : Value → Shared → Prop}
/-- a call of one of the text's defs, none of which raises -/
theorem call_def {f : Addr} {k : Nat} {d : Value} {args : List Value} {binds : List (Str × Value)} {n : Nat} (R : Rm A (n + 1)) (hf : FnAt s.heap f k d) (hlim : s.heap.NoLimit)
    (hbind : ∀ pm cd, BindsTo s (fdAt k d pm cd) ⟨args, []⟩ binds) (hcell : ∀ x ∈ (scopeAt k).names, x.2 ≠ .cell) (hloc : ∀ x ∈ binds, (scopeAt k).names.lookup x.1 = some .local)
    (h : ∀ (h₁ : Heap) (env : Env) (tk : Nat), env.scope = scopeAt k → env.globals = mainGlobals → env.builtins = builtinsNs → env.cells = [] → s.heap.objs.size ≤ env.locals → h₁.Ns env.locals (fun x => binds.reverse.lookup x) → Kp s.heap h₁ → tk = s.toks + binds.length →
      wpAny (model prog w) (A.deeper env) (execs (bodyAt k) env) (fun fl s' => Q (match fl with | .ret v => v | _ => .none) s') (fun _ _ => False) { s with heap := h₁, toks := tk })
    (hco : (scopeAt k).isCoroutine = false) (hgen : (scopeAt k).isGenerator = false) (hk : (scopeAt k).kind = .function) :
    wpAny (model prog w) A (call (.ref f) args) Q E s := by
  obtain ⟨o, pm, cd, ho, hd, hc⟩ := hf
  have := R.dp
  refine wpAny_call (codeAny_call_def (fd := fdAt k d pm cd) (body := bodyAt k) (by omega) ho hd hlim hc rfl (hbind pm cd) hcell hloc (fun h₁ hn hkp => ?_) hco hgen hk)
  refine wpAny_mono (h h₁ (callEnv (fdAt k d pm cd) s.heap.objs.size f) _ rfl rfl rfl rfl (Nat.le_refl _) hn hkp rfl) (fun fl s' hq => hq) fun _ _ e => e.elim
end

theorem sc13 : (scopeAt 13).kind = .function := by rfl
end Mine
end

section
open PySem PySem.W PyProof.Rows PySem.Calls
set_option Elab.async false
set_option maxRecDepth 100000
namespace Mine
/-! ### the whole opening and top in one run over a tree of objects -/
def impT (p : Program) (w : World) : Nat → SharedT → Thread → Option SharedT
  | 0, _, _ => none
  | n + 1, s, t => match t.atExitBegin with
    | some [] => some s
    | some (_ :: _) => none
    | none => match stepT (denote treeTable) p w s t with
      | some (s', t') => impT p w n s' t'
      | none => none
theorem impT_spec {p : Program} {w : World} : ∀ {n : Nat} {s s' : SharedT} {t : Thread}, impT p w n s t = some s' → importEnds treeTable p w n s.abs t = some s'.abs
  | 0, _, _, _, h => by simp [impT] at h
  | n + 1, s, s', t, h => by
    unfold impT at h
    unfold importEnds
    cases he : t.atExitBegin with
    | some x =>
      rw [he] at h
      cases x with
      | nil => obtain rfl : s = s' := Option.some.inj h; rfl
      | cons _ _ => cases h
    | none =>
      rw [he] at h
      cases hs : stepT (denote treeTable) p w s t with
      | none => rw [hs] at h; cases h
      | some r => obtain ⟨s₂, t₂⟩ := r; rw [hs] at h; dsimp only; rw [stepT_spec hs]; exact impT_spec h
def topT (p : Program) (w : World) (n₀ : Nat) (ann : Option Value) : Nat → SharedT → Thread → Option SharedT
  | 0, _, _ => none
  | n + 1, s, t => match through t with
    | true => some s
    | false => match stepOk n₀ ann t with
      | false => none
      | true => match stepT (denote treeTable) p w s t with
        | some (s', t') => topT p w n₀ ann n s' t'
        | none => none
theorem topT_spec {p : Program} {w : World} {n₀ : Nat} {ann : Option Value} : ∀ {n : Nat} {s s' : SharedT} {t : Thread}, topT p w n₀ ann n s t = some s' → topRun treeTable p w n₀ ann n s.abs t = some s'.abs
  | 0, _, _, _, h => by simp [topT] at h
  | n + 1, s, s', t, h => by
    unfold topT at h
    unfold topRun
    cases he : through t with
    | true => rw [he] at h; obtain rfl : s = s' := Option.some.inj h; rfl
    | false =>
      rw [he] at h
      cases hk : stepOk n₀ ann t with
      | false => rw [hk] at h; cases h
      | true =>
        rw [hk] at h
        cases hs : stepT (denote treeTable) p w s t with
        | none => rw [hs] at h; cases h
        | some r => obtain ⟨s₂, t₂⟩ := r; rw [hs] at h; dsimp only; rw [stepT_spec hs]; exact topT_spec h

def treeOf? : List Obj → BT → Nat → Option (BT × Nat)
  | [], t, n => some (t, n)
  | o :: r, t, n => match ((t.ins n o).get n).isSome with
    | true => treeOf? r (t.ins n o) (n + 1)
    | false => none
theorem treeOf_spec {life : Life} : ∀ {l : List Obj} {t : BT} {n : Nat} {t' : BT} {n' : Nat}, treeOf? l t n = some (t', n') → absHeap t' n' life = ⟨(absHeap t n life).objs ++ l.toArray, life⟩
  | [], t, n, t', n', h => by
    obtain ⟨rfl, rfl⟩ : t = t' ∧ n = n' := by simpa [treeOf?] using h
    show absHeap t n life = ⟨(absHeap t n life).objs ++ #[], life⟩
    rw [Array.append_empty]; rfl
  | o :: r, t, n, t', n', h => by
    unfold treeOf? at h
    cases hk : ((t.ins n o).get n).isSome with
    | false => rw [hk] at h; cases h
    | true =>
      rw [hk] at h
      rw [treeOf_spec h, absHeap_ins hk]
      show (⟨((absHeap t n life).objs.push o) ++ r.toArray, life⟩ : Heap) = _
      congr 1
      apply Array.ext'
      simp
def asT? (s : Shared) : Option SharedT := match treeOf? s.heap.objs.toList .nil 0 with
  | some (t, n) => some ⟨t, n, s.heap.life, s.gens, s.drawn, s.toks, s.os⟩
  | none => none
theorem asT_spec {s : Shared} {s' : SharedT} (h : asT? s = some s') : s'.abs = s := by
  unfold asT? at h
  cases hk : treeOf? s.heap.objs.toList .nil 0 with
  | none => rw [hk] at h; cases h
  | some x =>
    obtain ⟨t, n⟩ := x
    rw [hk] at h
    obtain rfl := Option.some.inj h
    obtain ⟨⟨objs, life⟩, gens, drawn, toks, os⟩ := s
    show (⟨absHeap t n life, gens, drawn, toks, os⟩ : Shared) = _
    have e := treeOf_spec (life := life) hk
    rw [e]
    have z : (absHeap .nil 0 life).objs = #[] := rfl
    rw [z]
    simp

/-- the opening and the top, and what is read of their end -/
def runAll {β : Type} (p : Program) (w : World) (N : Nat) (f : Shared → β) : Option β :=
  match asT? (start (opening p)).1 with
  | none => none
  | some S0 => match impT (opening p) w N S0 (start (opening p)).2 with
    | none => none
    | some S1 => match fenceModules? p S1.abs with
      | none => none
      | some s0 => match s0.heap.isNs mainGlobals && s0.gens.size == 0 with
        | false => none
        | true => match asT? s0 with
          | none => none
          | some S2 => match topT p w s0.heap.objs.size (s0.heap.nsMap mainGlobals "__annotations__") N S2 (topStub p) with
            | none => none
            | some S3 => match staticsOk (importedModules p.main.body) s0.heap S3.abs.heap && namesBound p S3.abs.heap && gensDone S3.abs && laidKept s0.heap S3.abs.heap with
              | true => some (f S3.abs)
              | false => none
theorem runAll_spec {β : Type} {p : Program} {w : World} {N : Nat} {f : Shared → β} {r : β} (h : runAll p w N f = some r) : (openEnds treeTable p w N).map f = some r := by
  unfold runAll at h
  unfold openEnds fencedOpening
  cases h0 : asT? (start (opening p)).1 with
  | none => rw [h0] at h; cases h
  | some S0 =>
    rw [h0] at h
    dsimp only at h
    cases h1 : impT (opening p) w N S0 (start (opening p)).2 with
    | none => rw [h1] at h; cases h
    | some S1 =>
      rw [h1] at h
      dsimp only at h
      have e1 := impT_spec h1
      rw [asT_spec h0] at e1
      rw [e1]
      cases h2 : fenceModules? p S1.abs with
      | none => rw [h2] at h; cases h
      | some s0 =>
        rw [h2] at h
        dsimp only at h
        show (Option.bind (fenceModules? p S1.abs) (topFrom treeTable p w N)).map f = some r
        rw [h2]
        show (topFrom treeTable p w N s0).map f = some r
        unfold topFrom
        cases h3 : (s0.heap.isNs mainGlobals && s0.gens.size == 0) with
        | false => rw [h3] at h; cases h
        | true =>
          rw [h3] at h
          dsimp only at h ⊢
          cases h4 : asT? s0 with
          | none => rw [h4] at h; cases h
          | some S2 =>
            rw [h4] at h
            dsimp only at h
            cases h5 : topT p w s0.heap.objs.size (s0.heap.nsMap mainGlobals "__annotations__") N S2 (topStub p) with
            | none => rw [h5] at h; cases h
            | some S3 =>
              rw [h5] at h
              dsimp only at h
              have e2 := topT_spec h5
              rw [asT_spec h4] at e2
              rw [e2]
              show Option.map f (match _ with | true => some S3.abs | false => none) = some r
              cases h6 : (staticsOk (importedModules p.main.body) s0.heap S3.abs.heap && namesBound p S3.abs.heap && gensDone S3.abs && laidKept s0.heap S3.abs.heap) with
              | false => rw [h6] at h; cases h
              | true => rw [h6] at h; exact h

abbrev pw : Program := PySem.Challenge.pw_io0057_01
end Mine
end

section
open PySem PySem.W PyProof.Rows PySem.Calls
set_option Elab.async false
set_option maxRecDepth 100000
namespace Mine
def codeName (h : Heap) (v : Value) : Option Str := match v with
  | .ref c => match h.get? c with
    | some o => match o.data with
      | .fields vs => match (vs[1]? : Option Value) with
        | some (.str x _) => some x
        | _ => none
      | _ => none
    | none => none
  | _ => none
def fview (h : Heap) (a : Addr) : Option (FuncData × Option Str) := match h.get? a with
  | some o => match o.data with
    | .func f => some ({ f with pyModule := .none, code := .none }, codeName h f.code)
    | _ => none
  | none => none
def strOf (v : Value) : Option Str := match v with | .str x _ => some x | _ => none
def seqStrs (d : Data) : Option (List (Option Str)) := match d with | .seq xs _ => some (xs.toList.map strOf) | _ => none

theorem codeName_spec {h : Heap} {v : Value} {x : Str} (e : codeName h v = some x) : h.CodeRec v x := by
  unfold codeName at e
  split at e
  · rename_i c
    split at e
    · rename_i o ho
      split at e
      · rename_i vs hd
        split at e
        · rename_i y t hv
          obtain rfl : y = x := Option.some.inj e
          exact ⟨c, o, vs, t, rfl, ho, hd, hv⟩
        · cases e
      · cases e
    · cases e
  · cases e
theorem fview_spec {h : Heap} {a : Addr} {k : Nat} {d : Value} (e : fview h a = some (fdAt k d .none .none, some (nameAt k))) : FnAt h a k d := by
  unfold fview at e
  split at e
  · rename_i o ho
    split at e
    · rename_i f hf
      obtain ⟨e1, e2⟩ := Prod.mk.inj (Option.some.inj e)
      refine ⟨o, f.pyModule, f.code, ho, ?_, codeName_spec e2⟩
      rw [hf]
      congr 1
      obtain ⟨⟩ := f
      unfold fdAt at e1 ⊢
      simp only [FuncData.mk.injEq] at e1 ⊢
      simp_all
    · cases e
  · cases e

def absent : List Str := ["chr", "len", "bytes", "int", "range", "min"].map Str.ofString
def held : List (Str × Nat) := [("header_check", 59), ("unquote", 66), ("header_encode", 74), ("_unquote_match", 86), ("header_decode", 93), ("_law_octet", 100), ("_law_fewest", 107), ("_QUOPRI_HEADER_MAP", 44), ("_twin_re_1", 36)].map fun x => (Str.ofString x.1, x.2)
def fns : List (Nat × Nat × Value) := [(59, 13, .none), (66, 14, .none), (74, 15, .ref 67), (86, 19, .none), (93, 20, .none), (100, 22, .none), (107, 23, .none)]
def reObj : Obj := ⟨.type "re.Pattern", none, .fields #[.str (Str.ofString "=[a-fA-F0-9]{2}") 283, .int 256 315, .int 0 0, .none, .none, .ref 35, .int 0 0], #[]⟩
def rowObj : Obj := ⟨.type "tuple", none, .seq (rcode.map fun c => Value.int (c : Nat) 0) 0, #[]⟩
def dfltObj : Obj := ⟨.type "tuple", none, .seq #[.str (Str.ofString "iso-8859-1") 1868] 0, #[]⟩

structure Seen where
  flags : Bool
  lim : Option Value
  globals : List (Option Value)
  builtins : List (Option Value)
  fns : List (Option (FuncData × Option Str))
  objs : List (Option Obj)
  cls : Option (Value × Option Addr)
  map : Option (Value × Option (List (Option Str)))
def seenOf (s : Shared) : Seen where
  flags := s.heap.isNs mainGlobals && s.heap.isNs builtinsNs && s.heap.isNs cStatics
  lim := s.heap.nsMap cStatics "sys.recursionlimit"
  globals := (absent ++ held.map (·.1)).map (s.heap.nsMap mainGlobals)
  builtins := absent.map (s.heap.nsMap builtinsNs)
  fns := fns.map fun x => fview s.heap x.1
  objs := [36, 35, 67].map s.heap.get?
  cls := (s.heap.get? 86).map fun o => (o.cls, o.dict)
  map := (s.heap.get? 44).map fun o => (o.cls, seqStrs o.data)
def seenGood : Seen where
  flags := true
  lim := none
  globals := absent.map (fun _ => none) ++ held.map fun x => some (.ref x.2)
  builtins := [some (.builtin "chr"), some (.builtin "len"), some (.type "bytes"), some (.type "int"), some (.type "range"), some (.builtin "min")]
  fns := fns.map fun x => some (fdAt x.2.1 x.2.2 .none .none, some (nameAt x.2.1))
  objs := [some reObj, some rowObj, some dfltObj]
  cls := some (.type "function", none)
  map := some (.type "list", some ((List.range 256).map fun i => some (txt (piece i))))

def GlP (_ : World) (h : Heap) : Prop := ∃ mg mb, Gl mg mb h

theorem glp_of (w : World) (s : Shared) (e : seenOf s = seenGood) : GlP w s.heap := by
  have e1 := congrArg Seen.flags e
  have e2 := congrArg Seen.lim e
  have e3 := congrArg Seen.globals e
  have e4 := congrArg Seen.builtins e
  have e5 := congrArg Seen.fns e
  have e6 := congrArg Seen.objs e
  have e7 := congrArg Seen.cls e
  have e8 := congrArg Seen.map e
  simp only [seenOf, seenGood, absent, held, fns, List.map_cons, List.map_nil, List.cons_append, List.nil_append, List.cons.injEq, Bool.and_eq_true, and_true] at e1 e2 e3 e4 e5 e6 e7 e8
  obtain ⟨⟨f1, f2⟩, f3⟩ := e1
  obtain ⟨a1, a2, a3, a4, a5, a6, v1, v2, v3, v4, v5, v6, v7, v8, v9⟩ := e3
  obtain ⟨b1, b2, b3, b4, b5, b6⟩ := e4
  obtain ⟨c1, c2, c3, c4, c5, c6, c7⟩ := e5
  obtain ⟨o1, o2, o3⟩ := e6
  refine ⟨_, _, .of_isNs f1, .of_isNs f2, ⟨_, .of_isNs f3, e2⟩, a1, a2, a3, a4, a5, a6, b1, b2, b3, b4, b5, b6, v1, v2, v3, v4, v5, v6, v7, v8, v9,
    fview_spec c1, fview_spec c2, fview_spec c3, fview_spec c4, fview_spec c5, fview_spec c6, fview_spec c7, ⟨_, _, _, o3, rfl⟩, ?_, ?_, ?_⟩
  · exact ⟨_, _, _, _, _, _, _, _, _, o1, o2, by decide +kernel⟩
  · obtain ⟨o, ho, h⟩ := Option.map_eq_some_iff.mp e7
    obtain ⟨h1, h2⟩ := Prod.mk.inj h
    exact ⟨o, ho, h1, h2⟩
  · obtain ⟨o, ho, h⟩ := Option.map_eq_some_iff.mp e8
    obtain ⟨h1, h2⟩ := Prod.mk.inj h
    unfold seqStrs at h2
    split at h2
    · rename_i xs n hd
      have h3 := Option.some.inj h2
      refine ⟨xs, ⟨o, ho, h1, n, hd⟩, ?_, fun i hi => ?_⟩
      · have := congrArg List.length h3
        simpa using this
      · have h4 : (xs.toList.map strOf)[i]? = some (some (txt (piece i))) := by
          rw [h3, List.getElem?_map, List.getElem?_range hi]; rfl
        rw [List.getElem?_map] at h4
        obtain ⟨v, hv, hs⟩ := Option.map_eq_some_iff.mp h4
        unfold strOf at hs
        split at hs
        · rename_i x t
          obtain rfl : x = txt (piece i) := Option.some.inj hs
          exact ⟨t, by simpa using hv⟩
        · cases hs
    · cases h2
theorem glp_keeps (w : World) (h h' : Heap) (x : GlP w h) (hk : ∀ b o, h.get? b = some o → h'.get? b = some o) : GlP w h' :=
  let ⟨mg, mb, G⟩ := x; ⟨mg, mb, G.keeps hk⟩
end Mine
end

section
open PySem PySem.W PyProof.Rows PySem.Calls
set_option Elab.async false
set_option maxRecDepth 100000
namespace Mine
/-! ### the states at the cuts, in the form of a tree (printed by a program of our own) -/
noncomputable def lf : Life := (start (opening pw)).1.heap.life
noncomputable def q (i : Nat) : Value := .str (txt [61, hexd (i / 16), hexd (i % 16)]) (323 + 4 * i)
noncomputable def q1 (c t : Nat) : Value := .str (txt [c]) t
noncomputable def mapTexts (n : Nat) : Array Value := ((List.range n).map q).toArray
noncomputable def qSax0 (P : Params) : Obj := ⟨(.type "dict"), none, (.dict #[⟨PyData.keyHash P (Str.ofString "__name__"), (.str (Str.ofString "__name__") 1), (.str (Str.ofString "builtins") 160)⟩,
  ⟨PyData.keyHash P (Str.ofString "__doc__"), (.str (Str.ofString "__doc__") 2), (.builtin "builtins.__doc__:str#opaque")⟩,
  ⟨PyData.keyHash P (Str.ofString "__package__"), (.str (Str.ofString "__package__") 3), (.builtin "builtins.__package__:str#opaque")⟩,
  ⟨PyData.keyHash P (Str.ofString "__loader__"), (.str (Str.ofString "__loader__") 4), (.builtin "builtins.__loader__:shared#opaque")⟩,
  ⟨PyData.keyHash P (Str.ofString "__spec__"), (.str (Str.ofString "__spec__") 5), (.builtin "builtins.__spec__#opaque")⟩,
  ⟨PyData.keyHash P (Str.ofString "__build_class__"), (.str (Str.ofString "__build_class__") 6), (.builtin "__build_class__")⟩,
  ⟨PyData.keyHash P (Str.ofString "__import__"), (.str (Str.ofString "__import__") 7), (.builtin "__import__")⟩,
  ⟨PyData.keyHash P (Str.ofString "abs"), (.str (Str.ofString "abs") 8), (.builtin "abs")⟩,
  ⟨PyData.keyHash P (Str.ofString "all"), (.str (Str.ofString "all") 9), (.builtin "all")⟩,
  ⟨PyData.keyHash P (Str.ofString "any"), (.str (Str.ofString "any") 10), (.builtin "any")⟩,
  ⟨PyData.keyHash P (Str.ofString "ascii"), (.str (Str.ofString "ascii") 11), (.builtin "ascii")⟩,
  ⟨PyData.keyHash P (Str.ofString "bin"), (.str (Str.ofString "bin") 12), (.builtin "bin")⟩,
  ⟨PyData.keyHash P (Str.ofString "breakpoint"), (.str (Str.ofString "breakpoint") 13), (.builtin "breakpoint")⟩,
  ⟨PyData.keyHash P (Str.ofString "callable"), (.str (Str.ofString "callable") 14), (.builtin "callable")⟩,
  ⟨PyData.keyHash P (Str.ofString "chr"), (.str (Str.ofString "chr") 15), (.builtin "chr")⟩,
  ⟨PyData.keyHash P (Str.ofString "compile"), (.str (Str.ofString "compile") 16), (.builtin "compile")⟩,
  ⟨PyData.keyHash P (Str.ofString "delattr"), (.str (Str.ofString "delattr") 17), (.builtin "delattr")⟩,
  ⟨PyData.keyHash P (Str.ofString "dir"), (.str (Str.ofString "dir") 18), (.builtin "dir")⟩,
  ⟨PyData.keyHash P (Str.ofString "divmod"), (.str (Str.ofString "divmod") 19), (.builtin "divmod")⟩,
  ⟨PyData.keyHash P (Str.ofString "eval"), (.str (Str.ofString "eval") 20), (.builtin "eval")⟩,
  ⟨PyData.keyHash P (Str.ofString "exec"), (.str (Str.ofString "exec") 21), (.builtin "exec")⟩,
  ⟨PyData.keyHash P (Str.ofString "format"), (.str (Str.ofString "format") 22), (.builtin "format")⟩,
  ⟨PyData.keyHash P (Str.ofString "getattr"), (.str (Str.ofString "getattr") 23), (.builtin "getattr")⟩,
  ⟨PyData.keyHash P (Str.ofString "globals"), (.str (Str.ofString "globals") 24), (.builtin "globals")⟩,
  ⟨PyData.keyHash P (Str.ofString "hasattr"), (.str (Str.ofString "hasattr") 25), (.builtin "hasattr")⟩,
  ⟨PyData.keyHash P (Str.ofString "hash"), (.str (Str.ofString "hash") 26), (.builtin "hash")⟩,
  ⟨PyData.keyHash P (Str.ofString "hex"), (.str (Str.ofString "hex") 27), (.builtin "hex")⟩,
  ⟨PyData.keyHash P (Str.ofString "id"), (.str (Str.ofString "id") 28), (.builtin "id")⟩,
  ⟨PyData.keyHash P (Str.ofString "input"), (.str (Str.ofString "input") 29), (.builtin "input")⟩,
  ⟨PyData.keyHash P (Str.ofString "isinstance"), (.str (Str.ofString "isinstance") 30), (.builtin "isinstance")⟩,
  ⟨PyData.keyHash P (Str.ofString "issubclass"), (.str (Str.ofString "issubclass") 31), (.builtin "issubclass")⟩,
  ⟨PyData.keyHash P (Str.ofString "iter"), (.str (Str.ofString "iter") 32), (.builtin "iter")⟩,
  ⟨PyData.keyHash P (Str.ofString "aiter"), (.str (Str.ofString "aiter") 33), (.builtin "aiter")⟩,
  ⟨PyData.keyHash P (Str.ofString "len"), (.str (Str.ofString "len") 34), (.builtin "len")⟩,
  ⟨PyData.keyHash P (Str.ofString "locals"), (.str (Str.ofString "locals") 35), (.builtin "locals")⟩,
  ⟨PyData.keyHash P (Str.ofString "max"), (.str (Str.ofString "max") 36), (.builtin "max")⟩,
  ⟨PyData.keyHash P (Str.ofString "min"), (.str (Str.ofString "min") 37), (.builtin "min")⟩,
  ⟨PyData.keyHash P (Str.ofString "next"), (.str (Str.ofString "next") 38), (.builtin "next")⟩,
  ⟨PyData.keyHash P (Str.ofString "anext"), (.str (Str.ofString "anext") 39), (.builtin "anext")⟩,
  ⟨PyData.keyHash P (Str.ofString "oct"), (.str (Str.ofString "oct") 40), (.builtin "oct")⟩,
  ⟨PyData.keyHash P (Str.ofString "ord"), (.str (Str.ofString "ord") 41), (.builtin "ord")⟩,
  ⟨PyData.keyHash P (Str.ofString "pow"), (.str (Str.ofString "pow") 42), (.builtin "pow")⟩,
  ⟨PyData.keyHash P (Str.ofString "print"), (.str (Str.ofString "print") 43), (.builtin "print")⟩,
  ⟨PyData.keyHash P (Str.ofString "repr"), (.str (Str.ofString "repr") 44), (.builtin "repr")⟩,
  ⟨PyData.keyHash P (Str.ofString "round"), (.str (Str.ofString "round") 45), (.builtin "round")⟩,
  ⟨PyData.keyHash P (Str.ofString "setattr"), (.str (Str.ofString "setattr") 46), (.builtin "setattr")⟩,
  ⟨PyData.keyHash P (Str.ofString "sorted"), (.str (Str.ofString "sorted") 47), (.builtin "sorted")⟩,
  ⟨PyData.keyHash P (Str.ofString "sum"), (.str (Str.ofString "sum") 48), (.builtin "sum")⟩,
  ⟨PyData.keyHash P (Str.ofString "vars"), (.str (Str.ofString "vars") 49), (.builtin "vars")⟩,
  ⟨PyData.keyHash P (Str.ofString "None"), (.str (Str.ofString "None") 50), .none⟩,
  ⟨PyData.keyHash P (Str.ofString "Ellipsis"), (.str (Str.ofString "Ellipsis") 51), .ellipsis⟩,
  ⟨PyData.keyHash P (Str.ofString "NotImplemented"), (.str (Str.ofString "NotImplemented") 52), .notImplemented⟩,
  ⟨PyData.keyHash P (Str.ofString "False"), (.str (Str.ofString "False") 53), (.bool false)⟩,
  ⟨PyData.keyHash P (Str.ofString "True"), (.str (Str.ofString "True") 54), (.bool true)⟩,
  ⟨PyData.keyHash P (Str.ofString "bool"), (.str (Str.ofString "bool") 55), (.type "bool")⟩,
  ⟨PyData.keyHash P (Str.ofString "memoryview"), (.str (Str.ofString "memoryview") 56), (.type "memoryview")⟩,
  ⟨PyData.keyHash P (Str.ofString "bytearray"), (.str (Str.ofString "bytearray") 57), (.type "bytearray")⟩,
  ⟨PyData.keyHash P (Str.ofString "bytes"), (.str (Str.ofString "bytes") 58), (.type "bytes")⟩,
  ⟨PyData.keyHash P (Str.ofString "classmethod"), (.str (Str.ofString "classmethod") 59), (.type "classmethod")⟩,
  ⟨PyData.keyHash P (Str.ofString "complex"), (.str (Str.ofString "complex") 60), (.type "complex")⟩,
  ⟨PyData.keyHash P (Str.ofString "dict"), (.str (Str.ofString "dict") 61), (.type "dict")⟩,
  ⟨PyData.keyHash P (Str.ofString "enumerate"), (.str (Str.ofString "enumerate") 62), (.type "enumerate")⟩,
  ⟨PyData.keyHash P (Str.ofString "filter"), (.str (Str.ofString "filter") 63), (.type "filter")⟩,
  ⟨PyData.keyHash P (Str.ofString "float"), (.str (Str.ofString "float") 64), (.type "float")⟩,
  ⟨PyData.keyHash P (Str.ofString "frozenset"), (.str (Str.ofString "frozenset") 65), (.type "frozenset")⟩,
  ⟨PyData.keyHash P (Str.ofString "property"), (.str (Str.ofString "property") 66), (.type "property")⟩,
  ⟨PyData.keyHash P (Str.ofString "int"), (.str (Str.ofString "int") 67), (.type "int")⟩,
  ⟨PyData.keyHash P (Str.ofString "list"), (.str (Str.ofString "list") 68), (.type "list")⟩,
  ⟨PyData.keyHash P (Str.ofString "map"), (.str (Str.ofString "map") 69), (.type "map")⟩,
  ⟨PyData.keyHash P (Str.ofString "object"), (.str (Str.ofString "object") 70), (.type "object")⟩,
  ⟨PyData.keyHash P (Str.ofString "range"), (.str (Str.ofString "range") 71), (.type "range")⟩,
  ⟨PyData.keyHash P (Str.ofString "reversed"), (.str (Str.ofString "reversed") 72), (.type "reversed")⟩,
  ⟨PyData.keyHash P (Str.ofString "set"), (.str (Str.ofString "set") 73), (.type "set")⟩,
  ⟨PyData.keyHash P (Str.ofString "slice"), (.str (Str.ofString "slice") 74), (.type "slice")⟩,
  ⟨PyData.keyHash P (Str.ofString "staticmethod"), (.str (Str.ofString "staticmethod") 75), (.type "staticmethod")⟩,
  ⟨PyData.keyHash P (Str.ofString "str"), (.str (Str.ofString "str") 76), (.type "str")⟩,
  ⟨PyData.keyHash P (Str.ofString "super"), (.str (Str.ofString "super") 77), (.type "super")⟩,
  ⟨PyData.keyHash P (Str.ofString "tuple"), (.str (Str.ofString "tuple") 78), (.type "tuple")⟩,
  ⟨PyData.keyHash P (Str.ofString "type"), (.str (Str.ofString "type") 79), (.type "type")⟩,
  ⟨PyData.keyHash P (Str.ofString "zip"), (.str (Str.ofString "zip") 80), (.type "zip")⟩,
  ⟨PyData.keyHash P (Str.ofString "__debug__"), (.str (Str.ofString "__debug__") 81), (.bool true)⟩,
  ⟨PyData.keyHash P (Str.ofString "BaseException"), (.str (Str.ofString "BaseException") 82), (.type "BaseException")⟩,
  ⟨PyData.keyHash P (Str.ofString "BaseExceptionGroup"), (.str (Str.ofString "BaseExceptionGroup") 83), (.type "BaseExceptionGroup")⟩,
  ⟨PyData.keyHash P (Str.ofString "Exception"), (.str (Str.ofString "Exception") 84), (.type "Exception")⟩,
  ⟨PyData.keyHash P (Str.ofString "GeneratorExit"), (.str (Str.ofString "GeneratorExit") 85), (.type "GeneratorExit")⟩,
  ⟨PyData.keyHash P (Str.ofString "KeyboardInterrupt"), (.str (Str.ofString "KeyboardInterrupt") 86), (.type "KeyboardInterrupt")⟩,
  ⟨PyData.keyHash P (Str.ofString "SystemExit"), (.str (Str.ofString "SystemExit") 87), (.type "SystemExit")⟩,
  ⟨PyData.keyHash P (Str.ofString "ArithmeticError"), (.str (Str.ofString "ArithmeticError") 88), (.type "ArithmeticError")⟩,
  ⟨PyData.keyHash P (Str.ofString "AssertionError"), (.str (Str.ofString "AssertionError") 89), (.type "AssertionError")⟩,
  ⟨PyData.keyHash P (Str.ofString "AttributeError"), (.str (Str.ofString "AttributeError") 90), (.type "AttributeError")⟩,
  ⟨PyData.keyHash P (Str.ofString "BufferError"), (.str (Str.ofString "BufferError") 91), (.type "BufferError")⟩,
  ⟨PyData.keyHash P (Str.ofString "EOFError"), (.str (Str.ofString "EOFError") 92), (.type "EOFError")⟩,
  ⟨PyData.keyHash P (Str.ofString "ImportError"), (.str (Str.ofString "ImportError") 93), (.type "ImportError")⟩,
  ⟨PyData.keyHash P (Str.ofString "LookupError"), (.str (Str.ofString "LookupError") 94), (.type "LookupError")⟩,
  ⟨PyData.keyHash P (Str.ofString "MemoryError"), (.str (Str.ofString "MemoryError") 95), (.type "MemoryError")⟩,
  ⟨PyData.keyHash P (Str.ofString "NameError"), (.str (Str.ofString "NameError") 96), (.type "NameError")⟩,
  ⟨PyData.keyHash P (Str.ofString "OSError"), (.str (Str.ofString "OSError") 97), (.type "OSError")⟩,
  ⟨PyData.keyHash P (Str.ofString "ReferenceError"), (.str (Str.ofString "ReferenceError") 98), (.type "ReferenceError")⟩,
  ⟨PyData.keyHash P (Str.ofString "RuntimeError"), (.str (Str.ofString "RuntimeError") 99), (.type "RuntimeError")⟩,
  ⟨PyData.keyHash P (Str.ofString "StopAsyncIteration"), (.str (Str.ofString "StopAsyncIteration") 100), (.type "StopAsyncIteration")⟩,
  ⟨PyData.keyHash P (Str.ofString "StopIteration"), (.str (Str.ofString "StopIteration") 101), (.type "StopIteration")⟩,
  ⟨PyData.keyHash P (Str.ofString "SyntaxError"), (.str (Str.ofString "SyntaxError") 102), (.type "SyntaxError")⟩,
  ⟨PyData.keyHash P (Str.ofString "SystemError"), (.str (Str.ofString "SystemError") 103), (.type "SystemError")⟩,
  ⟨PyData.keyHash P (Str.ofString "TypeError"), (.str (Str.ofString "TypeError") 104), (.type "TypeError")⟩,
  ⟨PyData.keyHash P (Str.ofString "ValueError"), (.str (Str.ofString "ValueError") 105), (.type "ValueError")⟩,
  ⟨PyData.keyHash P (Str.ofString "Warning"), (.str (Str.ofString "Warning") 106), (.type "Warning")⟩,
  ⟨PyData.keyHash P (Str.ofString "FloatingPointError"), (.str (Str.ofString "FloatingPointError") 107), (.type "FloatingPointError")⟩,
  ⟨PyData.keyHash P (Str.ofString "OverflowError"), (.str (Str.ofString "OverflowError") 108), (.type "OverflowError")⟩,
  ⟨PyData.keyHash P (Str.ofString "ZeroDivisionError"), (.str (Str.ofString "ZeroDivisionError") 109), (.type "ZeroDivisionError")⟩,
  ⟨PyData.keyHash P (Str.ofString "BytesWarning"), (.str (Str.ofString "BytesWarning") 110), (.type "BytesWarning")⟩,
  ⟨PyData.keyHash P (Str.ofString "DeprecationWarning"), (.str (Str.ofString "DeprecationWarning") 111), (.type "DeprecationWarning")⟩,
  ⟨PyData.keyHash P (Str.ofString "EncodingWarning"), (.str (Str.ofString "EncodingWarning") 112), (.type "EncodingWarning")⟩,
  ⟨PyData.keyHash P (Str.ofString "FutureWarning"), (.str (Str.ofString "FutureWarning") 113), (.type "FutureWarning")⟩,
  ⟨PyData.keyHash P (Str.ofString "ImportWarning"), (.str (Str.ofString "ImportWarning") 114), (.type "ImportWarning")⟩,
  ⟨PyData.keyHash P (Str.ofString "PendingDeprecationWarning"), (.str (Str.ofString "PendingDeprecationWarning") 115), (.type "PendingDeprecationWarning")⟩,
  ⟨PyData.keyHash P (Str.ofString "ResourceWarning"), (.str (Str.ofString "ResourceWarning") 116), (.type "ResourceWarning")⟩,
  ⟨PyData.keyHash P (Str.ofString "RuntimeWarning"), (.str (Str.ofString "RuntimeWarning") 117), (.type "RuntimeWarning")⟩,
  ⟨PyData.keyHash P (Str.ofString "SyntaxWarning"), (.str (Str.ofString "SyntaxWarning") 118), (.type "SyntaxWarning")⟩,
  ⟨PyData.keyHash P (Str.ofString "UnicodeWarning"), (.str (Str.ofString "UnicodeWarning") 119), (.type "UnicodeWarning")⟩,
  ⟨PyData.keyHash P (Str.ofString "UserWarning"), (.str (Str.ofString "UserWarning") 120), (.type "UserWarning")⟩,
  ⟨PyData.keyHash P (Str.ofString "BlockingIOError"), (.str (Str.ofString "BlockingIOError") 121), (.type "BlockingIOError")⟩,
  ⟨PyData.keyHash P (Str.ofString "ChildProcessError"), (.str (Str.ofString "ChildProcessError") 122), (.type "ChildProcessError")⟩,
  ⟨PyData.keyHash P (Str.ofString "ConnectionError"), (.str (Str.ofString "ConnectionError") 123), (.type "ConnectionError")⟩,
  ⟨PyData.keyHash P (Str.ofString "FileExistsError"), (.str (Str.ofString "FileExistsError") 124), (.type "FileExistsError")⟩,
  ⟨PyData.keyHash P (Str.ofString "FileNotFoundError"), (.str (Str.ofString "FileNotFoundError") 125), (.type "FileNotFoundError")⟩,
  ⟨PyData.keyHash P (Str.ofString "InterruptedError"), (.str (Str.ofString "InterruptedError") 126), (.type "InterruptedError")⟩,
  ⟨PyData.keyHash P (Str.ofString "IsADirectoryError"), (.str (Str.ofString "IsADirectoryError") 127), (.type "IsADirectoryError")⟩,
  ⟨PyData.keyHash P (Str.ofString "NotADirectoryError"), (.str (Str.ofString "NotADirectoryError") 128), (.type "NotADirectoryError")⟩,
  ⟨PyData.keyHash P (Str.ofString "PermissionError"), (.str (Str.ofString "PermissionError") 129), (.type "PermissionError")⟩,
  ⟨PyData.keyHash P (Str.ofString "ProcessLookupError"), (.str (Str.ofString "ProcessLookupError") 130), (.type "ProcessLookupError")⟩,
  ⟨PyData.keyHash P (Str.ofString "TimeoutError"), (.str (Str.ofString "TimeoutError") 131), (.type "TimeoutError")⟩,
  ⟨PyData.keyHash P (Str.ofString "IndentationError"), (.str (Str.ofString "IndentationError") 132), (.type "IndentationError")⟩,
  ⟨PyData.keyHash P (Str.ofString "_IncompleteInputError"), (.str (Str.ofString "_IncompleteInputError") 133), (.type "_IncompleteInputError")⟩,
  ⟨PyData.keyHash P (Str.ofString "IndexError"), (.str (Str.ofString "IndexError") 134), (.type "IndexError")⟩,
  ⟨PyData.keyHash P (Str.ofString "KeyError"), (.str (Str.ofString "KeyError") 135), (.type "KeyError")⟩,
  ⟨PyData.keyHash P (Str.ofString "ModuleNotFoundError"), (.str (Str.ofString "ModuleNotFoundError") 136), (.type "ModuleNotFoundError")⟩,
  ⟨PyData.keyHash P (Str.ofString "NotImplementedError"), (.str (Str.ofString "NotImplementedError") 137), (.type "NotImplementedError")⟩,
  ⟨PyData.keyHash P (Str.ofString "PythonFinalizationError"), (.str (Str.ofString "PythonFinalizationError") 138), (.type "PythonFinalizationError")⟩,
  ⟨PyData.keyHash P (Str.ofString "RecursionError"), (.str (Str.ofString "RecursionError") 139), (.type "RecursionError")⟩,
  ⟨PyData.keyHash P (Str.ofString "UnboundLocalError"), (.str (Str.ofString "UnboundLocalError") 140), (.type "UnboundLocalError")⟩,
  ⟨PyData.keyHash P (Str.ofString "UnicodeError"), (.str (Str.ofString "UnicodeError") 141), (.type "UnicodeError")⟩,
  ⟨PyData.keyHash P (Str.ofString "BrokenPipeError"), (.str (Str.ofString "BrokenPipeError") 142), (.type "BrokenPipeError")⟩,
  ⟨PyData.keyHash P (Str.ofString "ConnectionAbortedError"), (.str (Str.ofString "ConnectionAbortedError") 143), (.type "ConnectionAbortedError")⟩,
  ⟨PyData.keyHash P (Str.ofString "ConnectionRefusedError"), (.str (Str.ofString "ConnectionRefusedError") 144), (.type "ConnectionRefusedError")⟩,
  ⟨PyData.keyHash P (Str.ofString "ConnectionResetError"), (.str (Str.ofString "ConnectionResetError") 145), (.type "ConnectionResetError")⟩,
  ⟨PyData.keyHash P (Str.ofString "TabError"), (.str (Str.ofString "TabError") 146), (.type "TabError")⟩,
  ⟨PyData.keyHash P (Str.ofString "UnicodeDecodeError"), (.str (Str.ofString "UnicodeDecodeError") 147), (.type "UnicodeDecodeError")⟩,
  ⟨PyData.keyHash P (Str.ofString "UnicodeEncodeError"), (.str (Str.ofString "UnicodeEncodeError") 148), (.type "UnicodeEncodeError")⟩,
  ⟨PyData.keyHash P (Str.ofString "UnicodeTranslateError"), (.str (Str.ofString "UnicodeTranslateError") 149), (.type "UnicodeTranslateError")⟩,
  ⟨PyData.keyHash P (Str.ofString "ExceptionGroup"), (.str (Str.ofString "ExceptionGroup") 150), (.type "ExceptionGroup")⟩,
  ⟨PyData.keyHash P (Str.ofString "EnvironmentError"), (.str (Str.ofString "EnvironmentError") 151), (.type "OSError")⟩,
  ⟨PyData.keyHash P (Str.ofString "IOError"), (.str (Str.ofString "IOError") 152), (.type "OSError")⟩,
  ⟨PyData.keyHash P (Str.ofString "open"), (.str (Str.ofString "open") 153), (.builtin "open")⟩,
  ⟨PyData.keyHash P (Str.ofString "quit"), (.str (Str.ofString "quit") 154), (.builtin "builtins.quit#opaque")⟩,
  ⟨PyData.keyHash P (Str.ofString "exit"), (.str (Str.ofString "exit") 155), (.builtin "builtins.exit#opaque")⟩,
  ⟨PyData.keyHash P (Str.ofString "copyright"), (.str (Str.ofString "copyright") 156), (.builtin "builtins.copyright#opaque")⟩,
  ⟨PyData.keyHash P (Str.ofString "credits"), (.str (Str.ofString "credits") 157), (.builtin "builtins.credits#opaque")⟩,
  ⟨PyData.keyHash P (Str.ofString "license"), (.str (Str.ofString "license") 158), (.builtin "builtins.license#opaque")⟩,
  ⟨PyData.keyHash P (Str.ofString "help"), (.str (Str.ofString "help") 159), (.builtin "builtins.help#opaque")⟩] 159), #[]⟩
noncomputable def qSax1 (P : Params) : Obj := ⟨(.type "dict"), none, (.dict #[⟨PyData.keyHash P (Str.ofString "builtins"), (.str (Str.ofString "builtins") 162), (.ref 4)⟩,
  ⟨PyData.keyHash P (Str.ofString "__main__"), (.str (Str.ofString "__main__") 163), (.ref 5)⟩,
  ⟨PyData.keyHash P (Str.ofString "_sre"), (.str (Str.ofString "_sre") 244), (.ref 12)⟩] 3), #[]⟩
noncomputable def qSax2 (P : Params) : Obj := ⟨.none, none, (.dict #[⟨PyData.keyHash P (⟨#[105, 109, 112, 111, 114, 116, 46, 108, 111, 97, 100, 101, 100, 46, 95, 115, 114, 101]⟩ : Str), (.str (⟨#[105, 109, 112, 111, 114, 116, 46, 108, 111, 97, 100, 101, 100, 46, 95, 115, 114, 101]⟩ : Str) 183), (.bool true)⟩,
  ⟨PyData.keyHash P (Str.ofString "class._frozen_importlib.BuiltinImporter"), (.str (Str.ofString "class._frozen_importlib.BuiltinImporter") 185), (.ref 14)⟩,
  ⟨PyData.keyHash P (⟨#[119, 97, 116, 99, 104, 101, 100, 46, 105, 109, 112, 111, 114, 116]⟩ : Str), (.str (⟨#[119, 97, 116, 99, 104, 101, 100, 46, 105, 109, 112, 111, 114, 116]⟩ : Str) 206), (.ref 18)⟩,
  ⟨PyData.keyHash P (Str.ofString "class._frozen_importlib.ModuleSpec"), (.str (Str.ofString "class._frozen_importlib.ModuleSpec") 216), (.ref 22)⟩,
  ⟨PyData.keyHash P (Str.ofString "sys.modules.booked-epoch"), (.str (Str.ofString "sys.modules.booked-epoch") 245), (.int (3) 0)⟩,
  ⟨PyData.keyHash P (⟨#[105, 109, 112, 111, 114, 116, 46, 108, 97, 116, 101, 114, 45, 108, 97, 105, 100, 46, 95, 115, 114, 101]⟩ : Str), (.str (⟨#[105, 109, 112, 111, 114, 116, 46, 108, 97, 116, 101, 114, 45, 108, 97, 105, 100, 46, 95, 115, 114, 101]⟩ : Str) 270), (.bool true)⟩,
  ⟨PyData.keyHash P (Str.ofString "watched.library"), (.str (Str.ofString "watched.library") 272), (.ref 27)⟩,
  ⟨PyData.keyHash P (Str.ofString "watched.library-objects"), (.str (Str.ofString "watched.library-objects") 0), (.str (⟨#[12]⟩ : Str) 0)⟩,
  ⟨PyData.keyHash P (Str.ofString "watched.library-deep._sre"), (.str (Str.ofString "watched.library-deep._sre") 273), (.str (⟨#[4, 0, 0, 11, 4, 0, 0, 11, 4, 0, 0, 3, 4, 0, 0, 11, 8, 4, 100, 105, 99, 116, 2]⟩ : Str) 0)⟩] 9), #[]⟩
noncomputable def qSax3 (P : Params) : Obj := ⟨(.type "dict"), none, (.dict #[⟨PyData.keyHash P (Str.ofString "__name__"), (.str (Str.ofString "__name__") 165), (.str (Str.ofString "__main__") 164)⟩,
  ⟨PyData.keyHash P (Str.ofString "__doc__"), (.str (Str.ofString "__doc__") 166), .none⟩,
  ⟨PyData.keyHash P (Str.ofString "__package__"), (.str (Str.ofString "__package__") 167), .none⟩,
  ⟨PyData.keyHash P (Str.ofString "__loader__"), (.str (Str.ofString "__loader__") 168), (.builtin "__main__.__loader__#opaque")⟩,
  ⟨PyData.keyHash P (Str.ofString "__spec__"), (.str (Str.ofString "__spec__") 169), .none⟩,
  ⟨PyData.keyHash P (Str.ofString "__annotations__"), (.str (Str.ofString "__annotations__") 170), (.ref 6)⟩,
  ⟨PyData.keyHash P (Str.ofString "__builtins__"), (.str (Str.ofString "__builtins__") 171), (.ref 4)⟩,
  ⟨PyData.keyHash P (Str.ofString "__file__"), (.str (Str.ofString "__file__") 173), (.str (Str.ofString "/claim/cut.py") 172)⟩,
  ⟨PyData.keyHash P (Str.ofString "__cached__"), (.str (Str.ofString "__cached__") 174), .none⟩,
  ⟨PyData.keyHash P (Str.ofString "_sre"), (.str (Str.ofString "_sre") 275), (.ref 12)⟩] 10), #[]⟩
noncomputable def qSax4 (P : Params) : Obj := ⟨(.type "module"), (some 0), .plain, #[]⟩
noncomputable def qSax5 (P : Params) : Obj := ⟨(.type "module"), (some 3), .plain, #[]⟩
noncomputable def qSax6 (P : Params) : Obj := ⟨(.type "dict"), none, (.dict #[] 0), #[]⟩
noncomputable def qSax7 (P : Params) : Obj := ⟨(.type "tuple"), none, (.seq #[] 0), #[]⟩
noncomputable def qSax8 (P : Params) : Obj := ⟨.none, none, (.fields #[]), #[]⟩
noncomputable def qSax9 (P : Params) : Obj := ⟨(.type "code"), none, (.fields #[(.str (Str.ofString "<module>") 176), (.str (Str.ofString "<module>") 177), (.str (Str.ofString "/claim/cut.py") 178), (.int (1) 0), (.int (0) 0), (.int (0) 0), (.int (0) 0), (.int (0) 0), (.ref 7), (.bool false), (.int (175) 0), (.ref 8), .none, .none, .none, .none, (.int (179) 0), (.int (1) 0), (.str (Str.ofString "/claim/cut.py") 180)]), #[]⟩
noncomputable def qSax10 (P : Params) : Obj := ⟨(.type "frame"), none, .plain, #[(some (.ref 9)), (some (.ref 3)), (some (.ref 3)), none, (some (.str (Str.ofString "__main__") 164)), none, (some (.ref 0))]⟩
noncomputable def qSax11 (P : Params) : Obj := ⟨(.type "dict"), none, (.dict #[⟨PyData.keyHash P (Str.ofString "__name__"), (.str (Str.ofString "__name__") 247), (.str (Str.ofString "_sre") 246)⟩,
  ⟨PyData.keyHash P (Str.ofString "__doc__"), (.str (Str.ofString "__doc__") 248), .none⟩,
  ⟨PyData.keyHash P (Str.ofString "__package__"), (.str (Str.ofString "__package__") 250), (.str (Str.ofString "") 249)⟩,
  ⟨PyData.keyHash P (Str.ofString "__loader__"), (.str (Str.ofString "__loader__") 251), (.builtin "off-the-table:_sre.__loader__:shared#opaque")⟩,
  ⟨PyData.keyHash P (Str.ofString "__spec__"), (.str (Str.ofString "__spec__") 252), (.builtin "off-the-table:_sre.__spec__:shared#opaque")⟩,
  ⟨PyData.keyHash P (Str.ofString "compile"), (.str (Str.ofString "compile") 253), (.builtin "_sre.compile")⟩,
  ⟨PyData.keyHash P (Str.ofString "template"), (.str (Str.ofString "template") 254), (.builtin "off-the-table:_sre.template:shared#opaque")⟩,
  ⟨PyData.keyHash P (Str.ofString "getcodesize"), (.str (Str.ofString "getcodesize") 255), (.builtin "off-the-table:_sre.getcodesize:shared#opaque")⟩,
  ⟨PyData.keyHash P (Str.ofString "ascii_iscased"), (.str (Str.ofString "ascii_iscased") 256), (.builtin "off-the-table:_sre.ascii_iscased:shared#opaque")⟩,
  ⟨PyData.keyHash P (Str.ofString "unicode_iscased"), (.str (Str.ofString "unicode_iscased") 257), (.builtin "off-the-table:_sre.unicode_iscased:shared#opaque")⟩,
  ⟨PyData.keyHash P (Str.ofString "ascii_tolower"), (.str (Str.ofString "ascii_tolower") 258), (.builtin "off-the-table:_sre.ascii_tolower:shared#opaque")⟩,
  ⟨PyData.keyHash P (Str.ofString "unicode_tolower"), (.str (Str.ofString "unicode_tolower") 259), (.builtin "off-the-table:_sre.unicode_tolower:shared#opaque")⟩,
  ⟨PyData.keyHash P (Str.ofString "MAGIC"), (.str (Str.ofString "MAGIC") 261), (.int (20230612) 260)⟩,
  ⟨PyData.keyHash P (Str.ofString "CODESIZE"), (.str (Str.ofString "CODESIZE") 263), (.int (4) 262)⟩,
  ⟨PyData.keyHash P (Str.ofString "MAXREPEAT"), (.str (Str.ofString "MAXREPEAT") 265), (.int (4294967295) 264)⟩,
  ⟨PyData.keyHash P (Str.ofString "MAXGROUPS"), (.str (Str.ofString "MAXGROUPS") 267), (.int (1073741823) 266)⟩,
  ⟨PyData.keyHash P (Str.ofString "copyright"), (.str (Str.ofString "copyright") 269), (.str (Str.ofString " SRE 2.2.2 Copyright (c) 1997-2002 by Secret Labs AB ") 268)⟩] 17), #[]⟩
noncomputable def qSax12 (P : Params) : Obj := ⟨(.type "module"), (some 11), .plain, #[]⟩
noncomputable def qSax13 (P : Params) : Obj := ⟨(.type "dict"), none, (.dict #[⟨PyData.keyHash P (Str.ofString "__module__"), (.str (Str.ofString "__module__") 189), (.str (Str.ofString "_frozen_importlib") 186)⟩,
  ⟨PyData.keyHash P (Str.ofString "__firstlineno__"), (.str (Str.ofString "__firstlineno__") 190), (.int (971) 187)⟩,
  ⟨PyData.keyHash P (Str.ofString "__doc__"), (.str (Str.ofString "__doc__") 191), (.builtin "_frozen_importlib.BuiltinImporter.__doc__:str#opaque")⟩,
  ⟨PyData.keyHash P (Str.ofString "_ORIGIN"), (.str (Str.ofString "_ORIGIN") 192), (.str (Str.ofString "built-in") 188)⟩,
  ⟨PyData.keyHash P (Str.ofString "find_spec"), (.str (Str.ofString "find_spec") 193), (.builtin "_frozen_importlib.BuiltinImporter.find_spec#opaque")⟩,
  ⟨PyData.keyHash P (Str.ofString "create_module"), (.str (Str.ofString "create_module") 194), (.builtin "_frozen_importlib.BuiltinImporter.create_module#opaque")⟩,
  ⟨PyData.keyHash P (Str.ofString "exec_module"), (.str (Str.ofString "exec_module") 195), (.builtin "_frozen_importlib.BuiltinImporter.exec_module#opaque")⟩,
  ⟨PyData.keyHash P (Str.ofString "get_code"), (.str (Str.ofString "get_code") 196), (.builtin "_frozen_importlib.BuiltinImporter.get_code#opaque")⟩,
  ⟨PyData.keyHash P (Str.ofString "get_source"), (.str (Str.ofString "get_source") 197), (.builtin "_frozen_importlib.BuiltinImporter.get_source#opaque")⟩,
  ⟨PyData.keyHash P (Str.ofString "is_package"), (.str (Str.ofString "is_package") 198), (.builtin "_frozen_importlib.BuiltinImporter.is_package#opaque")⟩,
  ⟨PyData.keyHash P (Str.ofString "load_module"), (.str (Str.ofString "load_module") 199), (.builtin "_frozen_importlib.BuiltinImporter.load_module#opaque")⟩,
  ⟨PyData.keyHash P (Str.ofString "__static_attributes__"), (.str (Str.ofString "__static_attributes__") 200), (.ref 15)⟩,
  ⟨PyData.keyHash P (Str.ofString "__dict__"), (.str (Str.ofString "__dict__") 202), (.ref 16)⟩,
  ⟨PyData.keyHash P (Str.ofString "__weakref__"), (.str (Str.ofString "__weakref__") 204), (.ref 17)⟩] 14), #[]⟩
noncomputable def qSax14 (P : Params) : Obj := ⟨(.type "type"), none, (.cls { name := (Str.ofString "BuiltinImporter"), bases := [(.type "object")], mro := [(.ref 14), (.type "object")], ns := 13, qualname := (Str.ofString "BuiltinImporter"), hasDict := true, slotNames := [], subclasses := [], abstract := false, collection := none, hasDel := false }), #[]⟩
noncomputable def qSax15 (P : Params) : Obj := ⟨(.type "tuple"), none, (.seq #[] 0), #[]⟩
noncomputable def qSax16 (P : Params) : Obj := ⟨(.type "getset_descriptor"), none, (.fields #[(.str (Str.ofString "__dict__") 201), (.ref 14), (.builtin "function.__dict__"), (.builtin "function.__dict__#set")]), #[]⟩
noncomputable def qSax17 (P : Params) : Obj := ⟨(.type "getset_descriptor"), none, (.fields #[(.str (Str.ofString "__weakref__") 203), (.ref 14), (.builtin "ExceptionGroup.__weakref__"), .none]), #[]⟩
noncomputable def qSax18 (P : Params) : Obj := ⟨.none, none, (.seq #[(.int (13) 0), (.str (⟨#[6, 189, 10, 95, 95, 109, 111, 100, 117, 108, 101, 95, 95, 6, 186, 17, 95, 102, 114, 111, 122, 101, 110, 95, 105, 109, 112, 111, 114, 116, 108, 105, 98, 6, 190, 15, 95, 95, 102, 105, 114, 115, 116, 108, 105, 110, 101, 110, 111, 95, 95, 4, 187, 0, 971, 6, 191, 7, 95, 95, 100, 111, 99, 95, 95, 9, 52, 95, 102, 114, 111, 122, 101, 110, 95, 105, 109, 112, 111, 114, 116, 108, 105, 98, 46, 66, 117, 105, 108, 116, 105, 110, 73, 109, 112, 111, 114, 116, 101, 114, 46, 95, 95, 100, 111, 99, 95, 95, 58, 115, 116, 114, 35, 111, 112, 97, 113, 117, 101, 6, 192, 7, 95, 79, 82, 73, 71, 73, 78, 6, 188, 8, 98, 117, 105, 108, 116, 45, 105, 110, 6, 193, 9, 102, 105, 110, 100, 95, 115, 112, 101, 99, 9, 50, 95, 102, 114, 111, 122, 101, 110, 95, 105, 109, 112, 111, 114, 116, 108, 105, 98, 46, 66, 117, 105, 108, 116, 105, 110, 73, 109, 112, 111, 114, 116, 101, 114, 46, 102, 105, 110, 100, 95, 115, 112, 101, 99, 35, 111, 112, 97, 113, 117, 101, 6, 194, 13, 99, 114, 101, 97, 116, 101, 95, 109, 111, 100, 117, 108, 101, 9, 54, 95, 102, 114, 111, 122, 101, 110, 95, 105, 109, 112, 111, 114, 116, 108, 105, 98, 46, 66, 117, 105, 108, 116, 105, 110, 73, 109, 112, 111, 114, 116, 101, 114, 46, 99, 114, 101, 97, 116, 101, 95, 109, 111, 100, 117, 108, 101, 35, 111, 112, 97, 113, 117, 101, 6, 195, 11, 101, 120, 101, 99, 95, 109, 111, 100, 117, 108, 101, 9, 52, 95, 102, 114, 111, 122, 101, 110, 95, 105, 109, 112, 111, 114, 116, 108, 105, 98, 46, 66, 117, 105, 108, 116, 105, 110, 73, 109, 112, 111, 114, 116, 101, 114, 46, 101, 120, 101, 99, 95, 109, 111, 100, 117, 108, 101, 35, 111, 112, 97, 113, 117, 101, 6, 196, 8, 103, 101, 116, 95, 99, 111, 100, 101, 9, 49, 95, 102, 114, 111, 122, 101, 110, 95, 105, 109, 112, 111, 114, 116, 108, 105, 98, 46, 66, 117, 105, 108, 116, 105, 110, 73, 109, 112, 111, 114, 116, 101, 114, 46, 103, 101, 116, 95, 99, 111, 100, 101, 35, 111, 112, 97, 113, 117, 101, 6, 197, 10, 103, 101, 116, 95, 115, 111, 117, 114, 99, 101, 9, 51, 95, 102, 114, 111, 122, 101, 110, 95, 105, 109, 112, 111, 114, 116, 108, 105, 98, 46, 66, 117, 105, 108, 116, 105, 110, 73, 109, 112, 111, 114, 116, 101, 114, 46, 103, 101, 116, 95, 115, 111, 117, 114, 99, 101, 35, 111, 112, 97, 113, 117, 101, 6, 198, 10, 105, 115, 95, 112, 97, 99, 107, 97, 103, 101, 9, 51, 95, 102, 114, 111, 122, 101, 110, 95, 105, 109, 112, 111, 114, 116, 108, 105, 98, 46, 66, 117, 105, 108, 116, 105, 110, 73, 109, 112, 111, 114, 116, 101, 114, 46, 105, 115, 95, 112, 97, 99, 107, 97, 103, 101, 35, 111, 112, 97, 113, 117, 101, 6, 199, 11, 108, 111, 97, 100, 95, 109, 111, 100, 117, 108, 101, 9, 52, 95, 102, 114, 111, 122, 101, 110, 95, 105, 109, 112, 111, 114, 116, 108, 105, 98, 46, 66, 117, 105, 108, 116, 105, 110, 73, 109, 112, 111, 114, 116, 101, 114, 46, 108, 111, 97, 100, 95, 109, 111, 100, 117, 108, 101, 35, 111, 112, 97, 113, 117, 101, 6, 200, 21, 95, 95, 115, 116, 97, 116, 105, 99, 95, 97, 116, 116, 114, 105, 98, 117, 116, 101, 115, 95, 95, 4, 0, 0, 15, 6, 202, 8, 95, 95, 100, 105, 99, 116, 95, 95, 4, 0, 0, 16, 6, 204, 11, 95, 95, 119, 101, 97, 107, 114, 101, 102, 95, 95, 4, 0, 0, 17]⟩ : Str) 0), (.bool true), (.bool true), (.str (Str.ofString "") 205), (.int (21) 0), (.str (⟨#[6, 227, 10, 95, 95, 109, 111, 100, 117, 108, 101, 95, 95, 6, 217, 17, 95, 102, 114, 111, 122, 101, 110, 95, 105, 109, 112, 111, 114, 116, 108, 105, 98, 6, 228, 15, 95, 95, 102, 105, 114, 115, 116, 108, 105, 110, 101, 110, 111, 95, 95, 4, 218, 0, 562, 6, 229, 7, 95, 95, 100, 111, 99, 95, 95, 9, 47, 95, 102, 114, 111, 122, 101, 110, 95, 105, 109, 112, 111, 114, 116, 108, 105, 98, 46, 77, 111, 100, 117, 108, 101, 83, 112, 101, 99, 46, 95, 95, 100, 111, 99, 95, 95, 58, 115, 116, 114, 35, 111, 112, 97, 113, 117, 101, 6, 230, 8, 95, 95, 105, 110, 105, 116, 95, 95, 9, 44, 95, 102, 114, 111, 122, 101, 110, 95, 105, 109, 112, 111, 114, 116, 108, 105, 98, 46, 77, 111, 100, 117, 108, 101, 83, 112, 101, 99, 46, 95, 95, 105, 110, 105, 116, 95, 95, 35, 111, 112, 97, 113, 117, 101, 6, 231, 8, 95, 95, 114, 101, 112, 114, 95, 95, 9, 44, 95, 102, 114, 111, 122, 101, 110, 95, 105, 109, 112, 111, 114, 116, 108, 105, 98, 46, 77, 111, 100, 117, 108, 101, 83, 112, 101, 99, 46, 95, 95, 114, 101, 112, 114, 95, 95, 35, 111, 112, 97, 113, 117, 101, 6, 232, 6, 95, 95, 101, 113, 95, 95, 9, 42, 95, 102, 114, 111, 122, 101, 110, 95, 105, 109, 112, 111, 114, 116, 108, 105, 98, 46, 77, 111, 100, 117, 108, 101, 83, 112, 101, 99, 46, 95, 95, 101, 113, 95, 95, 35, 111, 112, 97, 113, 117, 101, 6, 233, 6, 99, 97, 99, 104, 101, 100, 9, 42, 95, 102, 114, 111, 122, 101, 110, 95, 105, 109, 112, 111, 114, 116, 108, 105, 98, 46, 77, 111, 100, 117, 108, 101, 83, 112, 101, 99, 46, 99, 97, 99, 104, 101, 100, 35, 111, 112, 97, 113, 117, 101, 6, 234, 6, 112, 97, 114, 101, 110, 116, 9, 42, 95, 102, 114, 111, 122, 101, 110, 95, 105, 109, 112, 111, 114, 116, 108, 105, 98, 46, 77, 111, 100, 117, 108, 101, 83, 112, 101, 99, 46, 112, 97, 114, 101, 110, 116, 35, 111, 112, 97, 113, 117, 101, 6, 235, 12, 104, 97, 115, 95, 108, 111, 99, 97, 116, 105, 111, 110, 9, 48, 95, 102, 114, 111, 122, 101, 110, 95, 105, 109, 112, 111, 114, 116, 108, 105, 98, 46, 77, 111, 100, 117, 108, 101, 83, 112, 101, 99, 46, 104, 97, 115, 95, 108, 111, 99, 97, 116, 105, 111, 110, 35, 111, 112, 97, 113, 117, 101, 6, 236, 21, 95, 95, 115, 116, 97, 116, 105, 99, 95, 97, 116, 116, 114, 105, 98, 117, 116, 101, 115, 95, 95, 4, 0, 0, 23, 6, 238, 8, 95, 95, 100, 105, 99, 116, 95, 95, 4, 0, 0, 24, 6, 240, 11, 95, 95, 119, 101, 97, 107, 114, 101, 102, 95, 95, 4, 0, 0, 25, 6, 241, 8, 95, 95, 104, 97, 115, 104, 95, 95, 0]⟩ : Str) 0), (.bool true), (.bool true), (.str (Str.ofString "") 242)] 1), #[]⟩
noncomputable def qSax19 (P : Params) : Obj := ⟨(.type "list"), none, (.seq #[] 0), #[]⟩
noncomputable def qSax20 (P : Params) : Obj := ⟨(.type "dict"), none, (.dict #[⟨PyData.keyHash P (Str.ofString "name"), (.str (Str.ofString "name") 208), (.str (Str.ofString "_sre") 207)⟩,
  ⟨PyData.keyHash P (Str.ofString "loader"), (.str (Str.ofString "loader") 209), (.ref 14)⟩,
  ⟨PyData.keyHash P (Str.ofString "origin"), (.str (Str.ofString "origin") 210), (.str (Str.ofString "built-in") 184)⟩,
  ⟨PyData.keyHash P (Str.ofString "loader_state"), (.str (Str.ofString "loader_state") 211), .none⟩,
  ⟨PyData.keyHash P (Str.ofString "submodule_search_locations"), (.str (Str.ofString "submodule_search_locations") 212), .none⟩,
  ⟨PyData.keyHash P (Str.ofString "_uninitialized_submodules"), (.str (Str.ofString "_uninitialized_submodules") 213), (.ref 19)⟩,
  ⟨PyData.keyHash P (Str.ofString "_set_fileattr"), (.str (Str.ofString "_set_fileattr") 214), (.bool false)⟩,
  ⟨PyData.keyHash P (Str.ofString "_cached"), (.str (Str.ofString "_cached") 215), .none⟩,
  ⟨PyData.keyHash P (Str.ofString "_initializing"), (.str (Str.ofString "_initializing") 243), (.bool false)⟩] 9), #[]⟩
noncomputable def qSax21 (P : Params) : Obj := ⟨(.type "dict"), none, (.dict #[⟨PyData.keyHash P (Str.ofString "__module__"), (.str (Str.ofString "__module__") 227), (.str (Str.ofString "_frozen_importlib") 217)⟩,
  ⟨PyData.keyHash P (Str.ofString "__firstlineno__"), (.str (Str.ofString "__firstlineno__") 228), (.int (562) 218)⟩,
  ⟨PyData.keyHash P (Str.ofString "__doc__"), (.str (Str.ofString "__doc__") 229), (.builtin "_frozen_importlib.ModuleSpec.__doc__:str#opaque")⟩,
  ⟨PyData.keyHash P (Str.ofString "__init__"), (.str (Str.ofString "__init__") 230), (.builtin "_frozen_importlib.ModuleSpec.__init__#opaque")⟩,
  ⟨PyData.keyHash P (Str.ofString "__repr__"), (.str (Str.ofString "__repr__") 231), (.builtin "_frozen_importlib.ModuleSpec.__repr__#opaque")⟩,
  ⟨PyData.keyHash P (Str.ofString "__eq__"), (.str (Str.ofString "__eq__") 232), (.builtin "_frozen_importlib.ModuleSpec.__eq__#opaque")⟩,
  ⟨PyData.keyHash P (Str.ofString "cached"), (.str (Str.ofString "cached") 233), (.builtin "_frozen_importlib.ModuleSpec.cached#opaque")⟩,
  ⟨PyData.keyHash P (Str.ofString "parent"), (.str (Str.ofString "parent") 234), (.builtin "_frozen_importlib.ModuleSpec.parent#opaque")⟩,
  ⟨PyData.keyHash P (Str.ofString "has_location"), (.str (Str.ofString "has_location") 235), (.builtin "_frozen_importlib.ModuleSpec.has_location#opaque")⟩,
  ⟨PyData.keyHash P (Str.ofString "__static_attributes__"), (.str (Str.ofString "__static_attributes__") 236), (.ref 23)⟩,
  ⟨PyData.keyHash P (Str.ofString "__dict__"), (.str (Str.ofString "__dict__") 238), (.ref 24)⟩,
  ⟨PyData.keyHash P (Str.ofString "__weakref__"), (.str (Str.ofString "__weakref__") 240), (.ref 25)⟩,
  ⟨PyData.keyHash P (Str.ofString "__hash__"), (.str (Str.ofString "__hash__") 241), .none⟩] 13), #[]⟩
noncomputable def qSax22 (P : Params) : Obj := ⟨(.type "type"), none, (.cls { name := (Str.ofString "ModuleSpec"), bases := [(.type "object")], mro := [(.ref 22), (.type "object")], ns := 21, qualname := (Str.ofString "ModuleSpec"), hasDict := true, slotNames := [], subclasses := [], abstract := false, collection := none, hasDel := false }), #[]⟩
noncomputable def qSax23 (P : Params) : Obj := ⟨(.type "tuple"), none, (.seq #[(.str (Str.ofString "_cached") 219), (.str (Str.ofString "_set_fileattr") 220), (.str (Str.ofString "_uninitialized_submodules") 221), (.str (Str.ofString "loader") 222), (.str (Str.ofString "loader_state") 223), (.str (Str.ofString "name") 224), (.str (Str.ofString "origin") 225), (.str (Str.ofString "submodule_search_locations") 226)] 0), #[]⟩
noncomputable def qSax24 (P : Params) : Obj := ⟨(.type "getset_descriptor"), none, (.fields #[(.str (Str.ofString "__dict__") 237), (.ref 22), (.builtin "function.__dict__"), (.builtin "function.__dict__#set")]), #[]⟩
noncomputable def qSax25 (P : Params) : Obj := ⟨(.type "getset_descriptor"), none, (.fields #[(.str (Str.ofString "__weakref__") 239), (.ref 22), (.builtin "ExceptionGroup.__weakref__"), .none]), #[]⟩
noncomputable def qSax26 (P : Params) : Obj := ⟨(.ref 22), (some 20), .plain, #[]⟩
noncomputable def qSax27 (P : Params) : Obj := ⟨.none, none, (.seq #[(.int (11) 0), (.str (⟨#[6, 247, 8, 95, 95, 110, 97, 109, 101, 95, 95, 6, 246, 4, 95, 115, 114, 101, 6, 248, 7, 95, 95, 100, 111, 99, 95, 95, 0, 6, 250, 11, 95, 95, 112, 97, 99, 107, 97, 103, 101, 95, 95, 6, 249, 0, 6, 251, 10, 95, 95, 108, 111, 97, 100, 101, 114, 95, 95, 4, 0, 0, 14, 6, 252, 8, 95, 95, 115, 112, 101, 99, 95, 95, 4, 0, 0, 26, 6, 253, 7, 99, 111, 109, 112, 105, 108, 101, 9, 12, 95, 115, 114, 101, 46, 99, 111, 109, 112, 105, 108, 101, 6, 254, 8, 116, 101, 109, 112, 108, 97, 116, 101, 9, 13, 95, 115, 114, 101, 46, 116, 101, 109, 112, 108, 97, 116, 101, 6, 255, 11, 103, 101, 116, 99, 111, 100, 101, 115, 105, 122, 101, 9, 16, 95, 115, 114, 101, 46, 103, 101, 116, 99, 111, 100, 101, 115, 105, 122, 101, 6, 256, 13, 97, 115, 99, 105, 105, 95, 105, 115, 99, 97, 115, 101, 100, 9, 18, 95, 115, 114, 101, 46, 97, 115, 99, 105, 105, 95, 105, 115, 99, 97, 115, 101, 100, 6, 257, 15, 117, 110, 105, 99, 111, 100, 101, 95, 105, 115, 99, 97, 115, 101, 100, 9, 20, 95, 115, 114, 101, 46, 117, 110, 105, 99, 111, 100, 101, 95, 105, 115, 99, 97, 115, 101, 100, 6, 258, 13, 97, 115, 99, 105, 105, 95, 116, 111, 108, 111, 119, 101, 114, 9, 18, 95, 115, 114, 101, 46, 97, 115, 99, 105, 105, 95, 116, 111, 108, 111, 119, 101, 114, 6, 259, 15, 117, 110, 105, 99, 111, 100, 101, 95, 116, 111, 108, 111, 119, 101, 114, 9, 20, 95, 115, 114, 101, 46, 117, 110, 105, 99, 111, 100, 101, 95, 116, 111, 108, 111, 119, 101, 114, 6, 261, 5, 77, 65, 71, 73, 67, 4, 260, 0, 20230612, 6, 263, 8, 67, 79, 68, 69, 83, 73, 90, 69, 4, 262, 0, 4, 6, 265, 9, 77, 65, 88, 82, 69, 80, 69, 65, 84, 4, 264, 0, 4294967295, 6, 267, 9, 77, 65, 88, 71, 82, 79, 85, 80, 83, 4, 266, 0, 1073741823, 6, 269, 9, 99, 111, 112, 121, 114, 105, 103, 104, 116, 6, 268, 53, 32, 83, 82, 69, 32, 50, 46, 50, 46, 50, 32, 67, 111, 112, 121, 114, 105, 103, 104, 116, 32, 40, 99, 41, 32, 49, 57, 57, 55, 45, 50, 48, 48, 50, 32, 98, 121, 32, 83, 101, 99, 114, 101, 116, 32, 76, 97, 98, 115, 32, 65, 66, 32]⟩ : Str) 0), (.bool true), (.bool false), (.str (Str.ofString "_sre") 271)] 0), #[]⟩
noncomputable def Sa (P : Params) (os : OsState) : SharedT := ⟨(.node (qSax0 P) (.node (qSax1 P) (.node (qSax3 P) (.node (qSax7 P) (.node (qSax15 P) .nil .nil) (.node (qSax23 P) .nil .nil)) (.node (qSax11 P) (.node (qSax19 P) .nil .nil) (.node (qSax27 P) .nil .nil))) (.node (qSax5 P) (.node (qSax9 P) (.node (qSax17 P) .nil .nil) (.node (qSax25 P) .nil .nil)) (.node (qSax13 P) (.node (qSax21 P) .nil .nil) .nil))) (.node (qSax2 P) (.node (qSax4 P) (.node (qSax8 P) (.node (qSax16 P) .nil .nil) (.node (qSax24 P) .nil .nil)) (.node (qSax12 P) (.node (qSax20 P) .nil .nil) .nil)) (.node (qSax6 P) (.node (qSax10 P) (.node (qSax18 P) .nil .nil) (.node (qSax26 P) .nil .nil)) (.node (qSax14 P) (.node (qSax22 P) .nil .nil) .nil)))), 28, lf, #[], {}, 276, os⟩
noncomputable def qSbx28 (P : Params) : Obj := ⟨(.type "tuple"), none, (.seq #[] 0), #[]⟩
noncomputable def qSbx29 (P : Params) : Obj := ⟨.none, none, (.fields #[]), #[]⟩
noncomputable def qSbx30 (P : Params) : Obj := ⟨(.type "code"), none, (.fields #[(.str (Str.ofString "<module>") 277), (.str (Str.ofString "<module>") 278), (.str (Str.ofString "/claim/cut.py") 279), (.int (1) 0), (.int (0) 0), (.int (0) 0), (.int (0) 0), (.int (0) 0), (.ref 28), (.bool false), (.int (276) 0), (.ref 29), .none, .none, .none, .none, (.int (280) 0), (.int (1) 0), (.str (Str.ofString "/claim/cut.py") 281)]), #[]⟩
noncomputable def qSbx31 (P : Params) : Obj := ⟨(.type "frame"), none, .plain, #[(some (.ref 30)), (some (.ref 3)), (some (.ref 3)), none, (some (.str (Str.ofString "__main__") 164)), none, (some (.ref 0))]⟩
noncomputable def Sb (P : Params) (os : OsState) : SharedT := ⟨(.node (qSax0 P) (.node (qSax1 P) (.node (qSax3 P) (.node (qSax7 P) (.node (qSax15 P) (.node (qSbx31 P) .nil .nil) .nil) (.node (qSax23 P) .nil .nil)) (.node (qSax11 P) (.node (qSax19 P) .nil .nil) (.node (qSax27 P) .nil .nil))) (.node (qSax5 P) (.node (qSax9 P) (.node (qSax17 P) .nil .nil) (.node (qSax25 P) .nil .nil)) (.node (qSax13 P) (.node (qSax21 P) .nil .nil) (.node (qSbx29 P) .nil .nil)))) (.node (qSax2 P) (.node (qSax4 P) (.node (qSax8 P) (.node (qSax16 P) .nil .nil) (.node (qSax24 P) .nil .nil)) (.node (qSax12 P) (.node (qSax20 P) .nil .nil) (.node (qSbx28 P) .nil .nil))) (.node (qSax6 P) (.node (qSax10 P) (.node (qSax18 P) .nil .nil) (.node (qSax26 P) .nil .nil)) (.node (qSax14 P) (.node (qSax22 P) .nil .nil) (.node (qSbx30 P) .nil .nil))))), 32, lf, #[], {}, 282, os⟩
noncomputable def qScx3 (P : Params) : Obj := ⟨(.type "dict"), none, (.dict #[⟨PyData.keyHash P (Str.ofString "__name__"), (.str (Str.ofString "__name__") 165), (.str (Str.ofString "__main__") 164)⟩,
  ⟨PyData.keyHash P (Str.ofString "__doc__"), (.str (Str.ofString "__doc__") 166), .none⟩,
  ⟨PyData.keyHash P (Str.ofString "__package__"), (.str (Str.ofString "__package__") 167), .none⟩,
  ⟨PyData.keyHash P (Str.ofString "__loader__"), (.str (Str.ofString "__loader__") 168), (.builtin "__main__.__loader__#opaque")⟩,
  ⟨PyData.keyHash P (Str.ofString "__spec__"), (.str (Str.ofString "__spec__") 169), .none⟩,
  ⟨PyData.keyHash P (Str.ofString "__annotations__"), (.str (Str.ofString "__annotations__") 170), (.ref 6)⟩,
  ⟨PyData.keyHash P (Str.ofString "__builtins__"), (.str (Str.ofString "__builtins__") 171), (.ref 4)⟩,
  ⟨PyData.keyHash P (Str.ofString "__file__"), (.str (Str.ofString "__file__") 173), (.str (Str.ofString "/claim/cut.py") 172)⟩,
  ⟨PyData.keyHash P (Str.ofString "__cached__"), (.str (Str.ofString "__cached__") 174), .none⟩,
  ⟨PyData.keyHash P (Str.ofString "_sre"), (.str (Str.ofString "_sre") 275), (.ref 12)⟩,
  ⟨PyData.keyHash P (Str.ofString "_twin_re_1"), (.str (Str.ofString "_twin_re_1") 316), (.ref 36)⟩] 11), #[]⟩
noncomputable def qScx32 (P : Params) : Obj := ⟨(.type "list"), none, (.seq #[(.int (14) 285), (.int (8) 286), (.int (1) 287), (.int (3) 288), (.int (3) 289), (.int (1) 290), (.int (1) 291), (.int (61) 292), (.int (0) 293), (.int (16) 294), (.int (61) 295), (.int (24) 296), (.int (16) 297), (.int (2) 298), (.int (2) 299), (.int (13) 300), (.int (11) 301), (.int (9) 302), (.int (0) 303), (.int (67043328) 304), (.int (126) 305), (.int (126) 306), (.int (0) 307), (.int (0) 308), (.int (0) 309), (.int (0) 310), (.int (0) 311), (.int (1) 312), (.int (1) 313)] 0), #[]⟩
noncomputable def qScx33 (P : Params) : Obj := ⟨(.type "dict"), none, (.dict #[] 0), #[]⟩
noncomputable def qScx34 (P : Params) : Obj := ⟨(.type "tuple"), none, (.seq #[.none] 0), #[]⟩
noncomputable def qScx35 (P : Params) : Obj := ⟨(.type "tuple"), none, (.seq #[(.int (14) 0), (.int (8) 0), (.int (1) 0), (.int (3) 0), (.int (3) 0), (.int (1) 0), (.int (1) 0), (.int (61) 0), (.int (0) 0), (.int (16) 0), (.int (61) 0), (.int (24) 0), (.int (16) 0), (.int (2) 0), (.int (2) 0), (.int (13) 0), (.int (11) 0), (.int (9) 0), (.int (0) 0), (.int (67043328) 0), (.int (126) 0), (.int (126) 0), (.int (0) 0), (.int (0) 0), (.int (0) 0), (.int (0) 0), (.int (0) 0), (.int (1) 0), (.int (1) 0)] 0), #[]⟩
noncomputable def qScx36 (P : Params) : Obj := ⟨(.type "re.Pattern"), none, (.fields #[(.str (Str.ofString "=[a-fA-F0-9]{2}") 283), (.int (256) 315), (.int (0) 0), .none, .none, (.ref 35), (.int (0) 0)]), #[]⟩
noncomputable def Sc (P : Params) (os : OsState) : SharedT := ⟨(.node (qSax0 P) (.node (qSax1 P) (.node (qScx3 P) (.node (qSax7 P) (.node (qSax15 P) (.node (qSbx31 P) .nil .nil) .nil) (.node (qSax23 P) .nil .nil)) (.node (qSax11 P) (.node (qSax19 P) (.node (qScx35 P) .nil .nil) .nil) (.node (qSax27 P) .nil .nil))) (.node (qSax5 P) (.node (qSax9 P) (.node (qSax17 P) (.node (qScx33 P) .nil .nil) .nil) (.node (qSax25 P) .nil .nil)) (.node (qSax13 P) (.node (qSax21 P) .nil .nil) (.node (qSbx29 P) .nil .nil)))) (.node (qSax2 P) (.node (qSax4 P) (.node (qSax8 P) (.node (qSax16 P) (.node (qScx32 P) .nil .nil) .nil) (.node (qSax24 P) .nil .nil)) (.node (qSax12 P) (.node (qSax20 P) (.node (qScx36 P) .nil .nil) .nil) (.node (qSbx28 P) .nil .nil))) (.node (qSax6 P) (.node (qSax10 P) (.node (qSax18 P) (.node (qScx34 P) .nil .nil) .nil) (.node (qSax26 P) .nil .nil)) (.node (qSax14 P) (.node (qSax22 P) .nil .nil) (.node (qSbx30 P) .nil .nil))))), 37, lf, #[], {}, 317, os⟩
noncomputable def qSct0x37 (P : Params) : Obj := ⟨(.type "range"), none, (.fields #[(.int (0) 318), (.int (256) 317), (.int (1) 319)]), #[]⟩
noncomputable def qSct0x38 (P : Params) : Obj := ⟨(.type "range_iterator"), none, (.fields #[(.int (1) 0), (.int (255) 0), (.int (1) 0)]), #[]⟩
noncomputable def qSct0x39 (P : Params) : Obj := ⟨(.type "list"), none, (.seq (mapTexts 1) 1), #[]⟩
noncomputable def qSct0x40 (P : Params) : Obj := ⟨(.type "dict"), none, (.dict #[⟨PyData.keyHash P (Str.ofString "c"), (.str (Str.ofString "c") 321), (.int (0) 320)⟩] 1), #[]⟩
noncomputable def Sct0 (P : Params) (os : OsState) : SharedT := ⟨(.node (qSax0 P) (.node (qSax1 P) (.node (qScx3 P) (.node (qSax7 P) (.node (qSax15 P) (.node (qSbx31 P) .nil .nil) .nil) (.node (qSax23 P) (.node (qSct0x39 P) .nil .nil) .nil)) (.node (qSax11 P) (.node (qSax19 P) (.node (qScx35 P) .nil .nil) .nil) (.node (qSax27 P) .nil .nil))) (.node (qSax5 P) (.node (qSax9 P) (.node (qSax17 P) (.node (qScx33 P) .nil .nil) .nil) (.node (qSax25 P) .nil .nil)) (.node (qSax13 P) (.node (qSax21 P) (.node (qSct0x37 P) .nil .nil) .nil) (.node (qSbx29 P) .nil .nil)))) (.node (qSax2 P) (.node (qSax4 P) (.node (qSax8 P) (.node (qSax16 P) (.node (qScx32 P) .nil .nil) .nil) (.node (qSax24 P) (.node (qSct0x40 P) .nil .nil) .nil)) (.node (qSax12 P) (.node (qSax20 P) (.node (qScx36 P) .nil .nil) .nil) (.node (qSbx28 P) .nil .nil))) (.node (qSax6 P) (.node (qSax10 P) (.node (qSax18 P) (.node (qScx34 P) .nil .nil) .nil) (.node (qSax26 P) .nil .nil)) (.node (qSax14 P) (.node (qSax22 P) (.node (qSct0x38 P) .nil .nil) .nil) (.node (qSbx30 P) .nil .nil))))), 41, lf, #[], {}, 324, os⟩
noncomputable def qSct1x38 (P : Params) : Obj := ⟨(.type "range_iterator"), none, (.fields #[(.int (33) 0), (.int (223) 0), (.int (1) 0)]), #[]⟩
noncomputable def qSct1x39 (P : Params) : Obj := ⟨(.type "list"), none, (.seq (mapTexts 33) 33), #[]⟩
noncomputable def qSct1x40 (P : Params) : Obj := ⟨(.type "dict"), none, (.dict #[⟨PyData.keyHash P (Str.ofString "c"), (.str (Str.ofString "c") 321), (.int (32) 448)⟩] 1), #[]⟩
noncomputable def Sct1 (P : Params) (os : OsState) : SharedT := ⟨(.node (qSax0 P) (.node (qSax1 P) (.node (qScx3 P) (.node (qSax7 P) (.node (qSax15 P) (.node (qSbx31 P) .nil .nil) .nil) (.node (qSax23 P) (.node (qSct1x39 P) .nil .nil) .nil)) (.node (qSax11 P) (.node (qSax19 P) (.node (qScx35 P) .nil .nil) .nil) (.node (qSax27 P) .nil .nil))) (.node (qSax5 P) (.node (qSax9 P) (.node (qSax17 P) (.node (qScx33 P) .nil .nil) .nil) (.node (qSax25 P) .nil .nil)) (.node (qSax13 P) (.node (qSax21 P) (.node (qSct0x37 P) .nil .nil) .nil) (.node (qSbx29 P) .nil .nil)))) (.node (qSax2 P) (.node (qSax4 P) (.node (qSax8 P) (.node (qSax16 P) (.node (qScx32 P) .nil .nil) .nil) (.node (qSax24 P) (.node (qSct1x40 P) .nil .nil) .nil)) (.node (qSax12 P) (.node (qSax20 P) (.node (qScx36 P) .nil .nil) .nil) (.node (qSbx28 P) .nil .nil))) (.node (qSax6 P) (.node (qSax10 P) (.node (qSax18 P) (.node (qScx34 P) .nil .nil) .nil) (.node (qSax26 P) .nil .nil)) (.node (qSax14 P) (.node (qSax22 P) (.node (qSct1x38 P) .nil .nil) .nil) (.node (qSbx30 P) .nil .nil))))), 41, lf, #[], {}, 452, os⟩
noncomputable def qSct2x38 (P : Params) : Obj := ⟨(.type "range_iterator"), none, (.fields #[(.int (65) 0), (.int (191) 0), (.int (1) 0)]), #[]⟩
noncomputable def qSct2x39 (P : Params) : Obj := ⟨(.type "list"), none, (.seq (mapTexts 65) 65), #[]⟩
noncomputable def qSct2x40 (P : Params) : Obj := ⟨(.type "dict"), none, (.dict #[⟨PyData.keyHash P (Str.ofString "c"), (.str (Str.ofString "c") 321), (.int (64) 576)⟩] 1), #[]⟩
noncomputable def Sct2 (P : Params) (os : OsState) : SharedT := ⟨(.node (qSax0 P) (.node (qSax1 P) (.node (qScx3 P) (.node (qSax7 P) (.node (qSax15 P) (.node (qSbx31 P) .nil .nil) .nil) (.node (qSax23 P) (.node (qSct2x39 P) .nil .nil) .nil)) (.node (qSax11 P) (.node (qSax19 P) (.node (qScx35 P) .nil .nil) .nil) (.node (qSax27 P) .nil .nil))) (.node (qSax5 P) (.node (qSax9 P) (.node (qSax17 P) (.node (qScx33 P) .nil .nil) .nil) (.node (qSax25 P) .nil .nil)) (.node (qSax13 P) (.node (qSax21 P) (.node (qSct0x37 P) .nil .nil) .nil) (.node (qSbx29 P) .nil .nil)))) (.node (qSax2 P) (.node (qSax4 P) (.node (qSax8 P) (.node (qSax16 P) (.node (qScx32 P) .nil .nil) .nil) (.node (qSax24 P) (.node (qSct2x40 P) .nil .nil) .nil)) (.node (qSax12 P) (.node (qSax20 P) (.node (qScx36 P) .nil .nil) .nil) (.node (qSbx28 P) .nil .nil))) (.node (qSax6 P) (.node (qSax10 P) (.node (qSax18 P) (.node (qScx34 P) .nil .nil) .nil) (.node (qSax26 P) .nil .nil)) (.node (qSax14 P) (.node (qSax22 P) (.node (qSct2x38 P) .nil .nil) .nil) (.node (qSbx30 P) .nil .nil))))), 41, lf, #[], {}, 580, os⟩
noncomputable def qSct3x38 (P : Params) : Obj := ⟨(.type "range_iterator"), none, (.fields #[(.int (97) 0), (.int (159) 0), (.int (1) 0)]), #[]⟩
noncomputable def qSct3x39 (P : Params) : Obj := ⟨(.type "list"), none, (.seq (mapTexts 97) 97), #[]⟩
noncomputable def qSct3x40 (P : Params) : Obj := ⟨(.type "dict"), none, (.dict #[⟨PyData.keyHash P (Str.ofString "c"), (.str (Str.ofString "c") 321), (.int (96) 704)⟩] 1), #[]⟩
noncomputable def Sct3 (P : Params) (os : OsState) : SharedT := ⟨(.node (qSax0 P) (.node (qSax1 P) (.node (qScx3 P) (.node (qSax7 P) (.node (qSax15 P) (.node (qSbx31 P) .nil .nil) .nil) (.node (qSax23 P) (.node (qSct3x39 P) .nil .nil) .nil)) (.node (qSax11 P) (.node (qSax19 P) (.node (qScx35 P) .nil .nil) .nil) (.node (qSax27 P) .nil .nil))) (.node (qSax5 P) (.node (qSax9 P) (.node (qSax17 P) (.node (qScx33 P) .nil .nil) .nil) (.node (qSax25 P) .nil .nil)) (.node (qSax13 P) (.node (qSax21 P) (.node (qSct0x37 P) .nil .nil) .nil) (.node (qSbx29 P) .nil .nil)))) (.node (qSax2 P) (.node (qSax4 P) (.node (qSax8 P) (.node (qSax16 P) (.node (qScx32 P) .nil .nil) .nil) (.node (qSax24 P) (.node (qSct3x40 P) .nil .nil) .nil)) (.node (qSax12 P) (.node (qSax20 P) (.node (qScx36 P) .nil .nil) .nil) (.node (qSbx28 P) .nil .nil))) (.node (qSax6 P) (.node (qSax10 P) (.node (qSax18 P) (.node (qScx34 P) .nil .nil) .nil) (.node (qSax26 P) .nil .nil)) (.node (qSax14 P) (.node (qSax22 P) (.node (qSct3x38 P) .nil .nil) .nil) (.node (qSbx30 P) .nil .nil))))), 41, lf, #[], {}, 708, os⟩
noncomputable def qSct4x38 (P : Params) : Obj := ⟨(.type "range_iterator"), none, (.fields #[(.int (129) 0), (.int (127) 0), (.int (1) 0)]), #[]⟩
noncomputable def qSct4x39 (P : Params) : Obj := ⟨(.type "list"), none, (.seq (mapTexts 129) 129), #[]⟩
noncomputable def qSct4x40 (P : Params) : Obj := ⟨(.type "dict"), none, (.dict #[⟨PyData.keyHash P (Str.ofString "c"), (.str (Str.ofString "c") 321), (.int (128) 832)⟩] 1), #[]⟩
noncomputable def Sct4 (P : Params) (os : OsState) : SharedT := ⟨(.node (qSax0 P) (.node (qSax1 P) (.node (qScx3 P) (.node (qSax7 P) (.node (qSax15 P) (.node (qSbx31 P) .nil .nil) .nil) (.node (qSax23 P) (.node (qSct4x39 P) .nil .nil) .nil)) (.node (qSax11 P) (.node (qSax19 P) (.node (qScx35 P) .nil .nil) .nil) (.node (qSax27 P) .nil .nil))) (.node (qSax5 P) (.node (qSax9 P) (.node (qSax17 P) (.node (qScx33 P) .nil .nil) .nil) (.node (qSax25 P) .nil .nil)) (.node (qSax13 P) (.node (qSax21 P) (.node (qSct0x37 P) .nil .nil) .nil) (.node (qSbx29 P) .nil .nil)))) (.node (qSax2 P) (.node (qSax4 P) (.node (qSax8 P) (.node (qSax16 P) (.node (qScx32 P) .nil .nil) .nil) (.node (qSax24 P) (.node (qSct4x40 P) .nil .nil) .nil)) (.node (qSax12 P) (.node (qSax20 P) (.node (qScx36 P) .nil .nil) .nil) (.node (qSbx28 P) .nil .nil))) (.node (qSax6 P) (.node (qSax10 P) (.node (qSax18 P) (.node (qScx34 P) .nil .nil) .nil) (.node (qSax26 P) .nil .nil)) (.node (qSax14 P) (.node (qSax22 P) (.node (qSct4x38 P) .nil .nil) .nil) (.node (qSbx30 P) .nil .nil))))), 41, lf, #[], {}, 836, os⟩
noncomputable def qSct5x38 (P : Params) : Obj := ⟨(.type "range_iterator"), none, (.fields #[(.int (161) 0), (.int (95) 0), (.int (1) 0)]), #[]⟩
noncomputable def qSct5x39 (P : Params) : Obj := ⟨(.type "list"), none, (.seq (mapTexts 161) 161), #[]⟩
noncomputable def qSct5x40 (P : Params) : Obj := ⟨(.type "dict"), none, (.dict #[⟨PyData.keyHash P (Str.ofString "c"), (.str (Str.ofString "c") 321), (.int (160) 960)⟩] 1), #[]⟩
noncomputable def Sct5 (P : Params) (os : OsState) : SharedT := ⟨(.node (qSax0 P) (.node (qSax1 P) (.node (qScx3 P) (.node (qSax7 P) (.node (qSax15 P) (.node (qSbx31 P) .nil .nil) .nil) (.node (qSax23 P) (.node (qSct5x39 P) .nil .nil) .nil)) (.node (qSax11 P) (.node (qSax19 P) (.node (qScx35 P) .nil .nil) .nil) (.node (qSax27 P) .nil .nil))) (.node (qSax5 P) (.node (qSax9 P) (.node (qSax17 P) (.node (qScx33 P) .nil .nil) .nil) (.node (qSax25 P) .nil .nil)) (.node (qSax13 P) (.node (qSax21 P) (.node (qSct0x37 P) .nil .nil) .nil) (.node (qSbx29 P) .nil .nil)))) (.node (qSax2 P) (.node (qSax4 P) (.node (qSax8 P) (.node (qSax16 P) (.node (qScx32 P) .nil .nil) .nil) (.node (qSax24 P) (.node (qSct5x40 P) .nil .nil) .nil)) (.node (qSax12 P) (.node (qSax20 P) (.node (qScx36 P) .nil .nil) .nil) (.node (qSbx28 P) .nil .nil))) (.node (qSax6 P) (.node (qSax10 P) (.node (qSax18 P) (.node (qScx34 P) .nil .nil) .nil) (.node (qSax26 P) .nil .nil)) (.node (qSax14 P) (.node (qSax22 P) (.node (qSct5x38 P) .nil .nil) .nil) (.node (qSbx30 P) .nil .nil))))), 41, lf, #[], {}, 964, os⟩
noncomputable def qSct6x38 (P : Params) : Obj := ⟨(.type "range_iterator"), none, (.fields #[(.int (193) 0), (.int (63) 0), (.int (1) 0)]), #[]⟩
noncomputable def qSct6x39 (P : Params) : Obj := ⟨(.type "list"), none, (.seq (mapTexts 193) 193), #[]⟩
noncomputable def qSct6x40 (P : Params) : Obj := ⟨(.type "dict"), none, (.dict #[⟨PyData.keyHash P (Str.ofString "c"), (.str (Str.ofString "c") 321), (.int (192) 1088)⟩] 1), #[]⟩
noncomputable def Sct6 (P : Params) (os : OsState) : SharedT := ⟨(.node (qSax0 P) (.node (qSax1 P) (.node (qScx3 P) (.node (qSax7 P) (.node (qSax15 P) (.node (qSbx31 P) .nil .nil) .nil) (.node (qSax23 P) (.node (qSct6x39 P) .nil .nil) .nil)) (.node (qSax11 P) (.node (qSax19 P) (.node (qScx35 P) .nil .nil) .nil) (.node (qSax27 P) .nil .nil))) (.node (qSax5 P) (.node (qSax9 P) (.node (qSax17 P) (.node (qScx33 P) .nil .nil) .nil) (.node (qSax25 P) .nil .nil)) (.node (qSax13 P) (.node (qSax21 P) (.node (qSct0x37 P) .nil .nil) .nil) (.node (qSbx29 P) .nil .nil)))) (.node (qSax2 P) (.node (qSax4 P) (.node (qSax8 P) (.node (qSax16 P) (.node (qScx32 P) .nil .nil) .nil) (.node (qSax24 P) (.node (qSct6x40 P) .nil .nil) .nil)) (.node (qSax12 P) (.node (qSax20 P) (.node (qScx36 P) .nil .nil) .nil) (.node (qSbx28 P) .nil .nil))) (.node (qSax6 P) (.node (qSax10 P) (.node (qSax18 P) (.node (qScx34 P) .nil .nil) .nil) (.node (qSax26 P) .nil .nil)) (.node (qSax14 P) (.node (qSax22 P) (.node (qSct6x38 P) .nil .nil) .nil) (.node (qSbx30 P) .nil .nil))))), 41, lf, #[], {}, 1092, os⟩
noncomputable def qSct7x38 (P : Params) : Obj := ⟨(.type "range_iterator"), none, (.fields #[(.int (225) 0), (.int (31) 0), (.int (1) 0)]), #[]⟩
noncomputable def qSct7x39 (P : Params) : Obj := ⟨(.type "list"), none, (.seq (mapTexts 225) 225), #[]⟩
noncomputable def qSct7x40 (P : Params) : Obj := ⟨(.type "dict"), none, (.dict #[⟨PyData.keyHash P (Str.ofString "c"), (.str (Str.ofString "c") 321), (.int (224) 1216)⟩] 1), #[]⟩
noncomputable def Sct7 (P : Params) (os : OsState) : SharedT := ⟨(.node (qSax0 P) (.node (qSax1 P) (.node (qScx3 P) (.node (qSax7 P) (.node (qSax15 P) (.node (qSbx31 P) .nil .nil) .nil) (.node (qSax23 P) (.node (qSct7x39 P) .nil .nil) .nil)) (.node (qSax11 P) (.node (qSax19 P) (.node (qScx35 P) .nil .nil) .nil) (.node (qSax27 P) .nil .nil))) (.node (qSax5 P) (.node (qSax9 P) (.node (qSax17 P) (.node (qScx33 P) .nil .nil) .nil) (.node (qSax25 P) .nil .nil)) (.node (qSax13 P) (.node (qSax21 P) (.node (qSct0x37 P) .nil .nil) .nil) (.node (qSbx29 P) .nil .nil)))) (.node (qSax2 P) (.node (qSax4 P) (.node (qSax8 P) (.node (qSax16 P) (.node (qScx32 P) .nil .nil) .nil) (.node (qSax24 P) (.node (qSct7x40 P) .nil .nil) .nil)) (.node (qSax12 P) (.node (qSax20 P) (.node (qScx36 P) .nil .nil) .nil) (.node (qSbx28 P) .nil .nil))) (.node (qSax6 P) (.node (qSax10 P) (.node (qSax18 P) (.node (qScx34 P) .nil .nil) .nil) (.node (qSax26 P) .nil .nil)) (.node (qSax14 P) (.node (qSax22 P) (.node (qSct7x38 P) .nil .nil) .nil) (.node (qSbx30 P) .nil .nil))))), 41, lf, #[], {}, 1220, os⟩
noncomputable def qSdx3 (P : Params) : Obj := ⟨(.type "dict"), none, (.dict #[⟨PyData.keyHash P (Str.ofString "__name__"), (.str (Str.ofString "__name__") 165), (.str (Str.ofString "__main__") 164)⟩,
  ⟨PyData.keyHash P (Str.ofString "__doc__"), (.str (Str.ofString "__doc__") 166), .none⟩,
  ⟨PyData.keyHash P (Str.ofString "__package__"), (.str (Str.ofString "__package__") 167), .none⟩,
  ⟨PyData.keyHash P (Str.ofString "__loader__"), (.str (Str.ofString "__loader__") 168), (.builtin "__main__.__loader__#opaque")⟩,
  ⟨PyData.keyHash P (Str.ofString "__spec__"), (.str (Str.ofString "__spec__") 169), .none⟩,
  ⟨PyData.keyHash P (Str.ofString "__annotations__"), (.str (Str.ofString "__annotations__") 170), (.ref 6)⟩,
  ⟨PyData.keyHash P (Str.ofString "__builtins__"), (.str (Str.ofString "__builtins__") 171), (.ref 4)⟩,
  ⟨PyData.keyHash P (Str.ofString "__file__"), (.str (Str.ofString "__file__") 173), (.str (Str.ofString "/claim/cut.py") 172)⟩,
  ⟨PyData.keyHash P (Str.ofString "__cached__"), (.str (Str.ofString "__cached__") 174), .none⟩,
  ⟨PyData.keyHash P (Str.ofString "_sre"), (.str (Str.ofString "_sre") 275), (.ref 12)⟩,
  ⟨PyData.keyHash P (Str.ofString "_twin_re_1"), (.str (Str.ofString "_twin_re_1") 316), (.ref 36)⟩,
  ⟨PyData.keyHash P (Str.ofString "_QUOPRI_MAP"), (.str (Str.ofString "_QUOPRI_MAP") 1344), (.ref 39)⟩] 12), #[]⟩
noncomputable def qSdx38 (P : Params) : Obj := ⟨(.type "range_iterator"), none, (.fields #[(.int (256) 0), (.int (0) 0), (.int (1) 0)]), #[]⟩
noncomputable def qSdx39 (P : Params) : Obj := ⟨(.type "list"), none, (.seq (mapTexts 256) 256), #[]⟩
noncomputable def qSdx40 (P : Params) : Obj := ⟨(.type "dict"), none, (.dict #[] 2), #[]⟩
noncomputable def qSdx41 (P : Params) : Obj := ⟨(.type "tuple"), none, (.seq #[] 0), #[]⟩
noncomputable def qSdx42 (P : Params) : Obj := ⟨(.type "StopIteration"), none, (.fields #[(.ref 41), .none, .none, .none, (.bool false), .none]), #[]⟩
noncomputable def Sd (P : Params) (os : OsState) : SharedT := ⟨(.node (qSax0 P) (.node (qSax1 P) (.node (qSdx3 P) (.node (qSax7 P) (.node (qSax15 P) (.node (qSbx31 P) .nil .nil) .nil) (.node (qSax23 P) (.node (qSdx39 P) .nil .nil) .nil)) (.node (qSax11 P) (.node (qSax19 P) (.node (qScx35 P) .nil .nil) .nil) (.node (qSax27 P) .nil .nil))) (.node (qSax5 P) (.node (qSax9 P) (.node (qSax17 P) (.node (qScx33 P) .nil .nil) .nil) (.node (qSax25 P) (.node (qSdx41 P) .nil .nil) .nil)) (.node (qSax13 P) (.node (qSax21 P) (.node (qSct0x37 P) .nil .nil) .nil) (.node (qSbx29 P) .nil .nil)))) (.node (qSax2 P) (.node (qSax4 P) (.node (qSax8 P) (.node (qSax16 P) (.node (qScx32 P) .nil .nil) .nil) (.node (qSax24 P) (.node (qSdx40 P) .nil .nil) .nil)) (.node (qSax12 P) (.node (qSax20 P) (.node (qScx36 P) .nil .nil) .nil) (.node (qSbx28 P) .nil .nil))) (.node (qSax6 P) (.node (qSax10 P) (.node (qSax18 P) (.node (qScx34 P) .nil .nil) .nil) (.node (qSax26 P) (.node (qSdx42 P) .nil .nil) .nil)) (.node (qSax14 P) (.node (qSax22 P) (.node (qSdx38 P) .nil .nil) .nil) (.node (qSbx30 P) .nil .nil))))), 43, lf, #[], {}, 1345, os⟩
noncomputable def qSex3 (P : Params) : Obj := ⟨(.type "dict"), none, (.dict #[⟨PyData.keyHash P (Str.ofString "__name__"), (.str (Str.ofString "__name__") 165), (.str (Str.ofString "cpy313.email.quoprimime") 1355)⟩,
  ⟨PyData.keyHash P (Str.ofString "__doc__"), (.str (Str.ofString "__doc__") 166), .none⟩,
  ⟨PyData.keyHash P (Str.ofString "__package__"), (.str (Str.ofString "__package__") 167), .none⟩,
  ⟨PyData.keyHash P (Str.ofString "__loader__"), (.str (Str.ofString "__loader__") 168), (.builtin "__main__.__loader__#opaque")⟩,
  ⟨PyData.keyHash P (Str.ofString "__spec__"), (.str (Str.ofString "__spec__") 169), .none⟩,
  ⟨PyData.keyHash P (Str.ofString "__annotations__"), (.str (Str.ofString "__annotations__") 170), (.ref 6)⟩,
  ⟨PyData.keyHash P (Str.ofString "__builtins__"), (.str (Str.ofString "__builtins__") 171), (.ref 4)⟩,
  ⟨PyData.keyHash P (Str.ofString "__file__"), (.str (Str.ofString "__file__") 173), (.str (Str.ofString "/claim/cut.py") 172)⟩,
  ⟨PyData.keyHash P (Str.ofString "__cached__"), (.str (Str.ofString "__cached__") 174), .none⟩,
  ⟨PyData.keyHash P (Str.ofString "_sre"), (.str (Str.ofString "_sre") 275), (.ref 12)⟩,
  ⟨PyData.keyHash P (Str.ofString "_twin_re_1"), (.str (Str.ofString "_twin_re_1") 316), (.ref 36)⟩,
  ⟨PyData.keyHash P (Str.ofString "_QUOPRI_MAP"), (.str (Str.ofString "_QUOPRI_MAP") 1344), (.ref 39)⟩,
  ⟨PyData.keyHash P (Str.ofString "_QUOPRI_HEADER_MAP"), (.str (Str.ofString "_QUOPRI_HEADER_MAP") 1345), (.ref 44)⟩,
  ⟨PyData.keyHash P (Str.ofString "_QUOPRI_BODY_MAP"), (.str (Str.ofString "_QUOPRI_BODY_MAP") 1346), (.ref 46)⟩,
  ⟨PyData.keyHash P (Str.ofString "ascii_lowercase"), (.str (Str.ofString "ascii_lowercase") 1348), (.str (Str.ofString "abcdefghijklmnopqrstuvwxyz") 1347)⟩,
  ⟨PyData.keyHash P (Str.ofString "ascii_uppercase"), (.str (Str.ofString "ascii_uppercase") 1350), (.str (Str.ofString "ABCDEFGHIJKLMNOPQRSTUVWXYZ") 1349)⟩,
  ⟨PyData.keyHash P (Str.ofString "ascii_letters"), (.str (Str.ofString "ascii_letters") 1352), (.str (Str.ofString "abcdefghijklmnopqrstuvwxyzABCDEFGHIJKLMNOPQRSTUVWXYZ") 1351)⟩,
  ⟨PyData.keyHash P (Str.ofString "digits"), (.str (Str.ofString "digits") 1354), (.str (Str.ofString "0123456789") 1353)⟩] 18), #[]⟩
noncomputable def qSex37 (P : Params) : Obj := ⟨(.type "range"), none, (.fields #[(.int (0) 318), (.int (256) 317), (.int (1) 319)]), #[]⟩
noncomputable def qSex38 (P : Params) : Obj := ⟨(.type "range_iterator"), none, (.fields #[(.int (256) 0), (.int (0) 0), (.int (1) 0)]), #[]⟩
noncomputable def qSex39 (P : Params) : Obj := ⟨(.type "list"), none, (.seq (mapTexts 256) 256), #[]⟩
noncomputable def qSex40 (P : Params) : Obj := ⟨(.type "dict"), none, (.dict #[] 2), #[]⟩
noncomputable def qSex42 (P : Params) : Obj := ⟨(.type "StopIteration"), none, (.fields #[(.ref 41), .none, .none, .none, (.bool false), .none]), #[]⟩
noncomputable def qSex43 (P : Params) : Obj := ⟨(.type "slice"), none, (.fields #[.none, .none, .none]), #[]⟩
noncomputable def qSex44 (P : Params) : Obj := ⟨(.type "list"), none, (.seq (mapTexts 256) 0), #[]⟩
noncomputable def qSex45 (P : Params) : Obj := ⟨(.type "slice"), none, (.fields #[.none, .none, .none]), #[]⟩
noncomputable def qSex46 (P : Params) : Obj := ⟨(.type "list"), none, (.seq (mapTexts 256) 0), #[]⟩
noncomputable def Se (P : Params) (os : OsState) : SharedT := ⟨(.node (qSax0 P) (.node (qSax1 P) (.node (qSex3 P) (.node (qSax7 P) (.node (qSax15 P) (.node (qSbx31 P) .nil .nil) .nil) (.node (qSax23 P) (.node (qSex39 P) .nil .nil) .nil)) (.node (qSax11 P) (.node (qSax19 P) (.node (qScx35 P) .nil .nil) .nil) (.node (qSax27 P) (.node (qSex43 P) .nil .nil) .nil))) (.node (qSax5 P) (.node (qSax9 P) (.node (qSax17 P) (.node (qScx33 P) .nil .nil) .nil) (.node (qSax25 P) (.node (qSdx41 P) .nil .nil) .nil)) (.node (qSax13 P) (.node (qSax21 P) (.node (qSex37 P) .nil .nil) .nil) (.node (qSbx29 P) (.node (qSex45 P) .nil .nil) .nil)))) (.node (qSax2 P) (.node (qSax4 P) (.node (qSax8 P) (.node (qSax16 P) (.node (qScx32 P) .nil .nil) .nil) (.node (qSax24 P) (.node (qSex40 P) .nil .nil) .nil)) (.node (qSax12 P) (.node (qSax20 P) (.node (qScx36 P) .nil .nil) .nil) (.node (qSbx28 P) (.node (qSex44 P) .nil .nil) .nil))) (.node (qSax6 P) (.node (qSax10 P) (.node (qSax18 P) (.node (qScx34 P) .nil .nil) .nil) (.node (qSax26 P) (.node (qSex42 P) .nil .nil) .nil)) (.node (qSax14 P) (.node (qSax22 P) (.node (qSex38 P) .nil .nil) .nil) (.node (qSbx30 P) (.node (qSex46 P) .nil .nil) .nil))))), 47, lf, #[], {}, 1357, os⟩
noncomputable def qSet0x3 (P : Params) : Obj := ⟨(.type "dict"), none, (.dict #[⟨PyData.keyHash P (Str.ofString "__name__"), (.str (Str.ofString "__name__") 165), (.str (Str.ofString "cpy313.email.quoprimime") 1355)⟩,
  ⟨PyData.keyHash P (Str.ofString "__doc__"), (.str (Str.ofString "__doc__") 166), .none⟩,
  ⟨PyData.keyHash P (Str.ofString "__package__"), (.str (Str.ofString "__package__") 167), .none⟩,
  ⟨PyData.keyHash P (Str.ofString "__loader__"), (.str (Str.ofString "__loader__") 168), (.builtin "__main__.__loader__#opaque")⟩,
  ⟨PyData.keyHash P (Str.ofString "__spec__"), (.str (Str.ofString "__spec__") 169), .none⟩,
  ⟨PyData.keyHash P (Str.ofString "__annotations__"), (.str (Str.ofString "__annotations__") 170), (.ref 6)⟩,
  ⟨PyData.keyHash P (Str.ofString "__builtins__"), (.str (Str.ofString "__builtins__") 171), (.ref 4)⟩,
  ⟨PyData.keyHash P (Str.ofString "__file__"), (.str (Str.ofString "__file__") 173), (.str (Str.ofString "/claim/cut.py") 172)⟩,
  ⟨PyData.keyHash P (Str.ofString "__cached__"), (.str (Str.ofString "__cached__") 174), .none⟩,
  ⟨PyData.keyHash P (Str.ofString "_sre"), (.str (Str.ofString "_sre") 275), (.ref 12)⟩,
  ⟨PyData.keyHash P (Str.ofString "_twin_re_1"), (.str (Str.ofString "_twin_re_1") 316), (.ref 36)⟩,
  ⟨PyData.keyHash P (Str.ofString "_QUOPRI_MAP"), (.str (Str.ofString "_QUOPRI_MAP") 1344), (.ref 39)⟩,
  ⟨PyData.keyHash P (Str.ofString "_QUOPRI_HEADER_MAP"), (.str (Str.ofString "_QUOPRI_HEADER_MAP") 1345), (.ref 44)⟩,
  ⟨PyData.keyHash P (Str.ofString "_QUOPRI_BODY_MAP"), (.str (Str.ofString "_QUOPRI_BODY_MAP") 1346), (.ref 46)⟩,
  ⟨PyData.keyHash P (Str.ofString "ascii_lowercase"), (.str (Str.ofString "ascii_lowercase") 1348), (.str (Str.ofString "abcdefghijklmnopqrstuvwxyz") 1347)⟩,
  ⟨PyData.keyHash P (Str.ofString "ascii_uppercase"), (.str (Str.ofString "ascii_uppercase") 1350), (.str (Str.ofString "ABCDEFGHIJKLMNOPQRSTUVWXYZ") 1349)⟩,
  ⟨PyData.keyHash P (Str.ofString "ascii_letters"), (.str (Str.ofString "ascii_letters") 1352), (.str (Str.ofString "abcdefghijklmnopqrstuvwxyzABCDEFGHIJKLMNOPQRSTUVWXYZ") 1351)⟩,
  ⟨PyData.keyHash P (Str.ofString "digits"), (.str (Str.ofString "digits") 1354), (.str (Str.ofString "0123456789") 1353)⟩,
  ⟨PyData.keyHash P (Str.ofString "c"), (.str (Str.ofString "c") 1365), (.int (33) 1367)⟩] 19), #[]⟩
noncomputable def qSet0x44 (P : Params) : Obj := ⟨(.type "list"), none, (.seq (List.toArray [q 0, q 1, q 2, q 3, q 4, q 5, q 6, q 7, q 8, q 9, q 10, q 11, q 12, q 13, q 14, q 15, q 16, q 17, q 18, q 19, q 20, q 21, q 22, q 23, q 24, q 25, q 26, q 27, q 28, q 29, q 30, q 31, q 32, q1 33 1369, q 34, q 35, q 36, q 37, q 38, q 39, q 40, q 41, q 42, q 43, q 44, q1 45 1366, q 46, q 47, q 48, q 49, q 50, q 51, q 52, q 53, q 54, q 55, q 56, q 57, q 58, q 59, q 60, q 61, q 62, q 63, q 64, q 65, q 66, q 67, q 68, q 69, q 70, q 71, q 72, q 73, q 74, q 75, q 76, q 77, q 78, q 79, q 80, q 81, q 82, q 83, q 84, q 85, q 86, q 87, q 88, q 89, q 90, q 91, q 92, q 93, q 94, q 95, q 96, q 97, q 98, q 99, q 100, q 101, q 102, q 103, q 104, q 105, q 106, q 107, q 108, q 109, q 110, q 111, q 112, q 113, q 114, q 115, q 116, q 117, q 118, q 119, q 120, q 121, q 122, q 123, q 124, q 125, q 126, q 127, q 128, q 129, q 130, q 131, q 132, q 133, q 134, q 135, q 136, q 137, q 138, q 139, q 140, q 141, q 142, q 143, q 144, q 145, q 146, q 147, q 148, q 149, q 150, q 151, q 152, q 153, q 154, q 155, q 156, q 157, q 158, q 159, q 160, q 161, q 162, q 163, q 164, q 165, q 166, q 167, q 168, q 169, q 170, q 171, q 172, q 173, q 174, q 175, q 176, q 177, q 178, q 179, q 180, q 181, q 182, q 183, q 184, q 185, q 186, q 187, q 188, q 189, q 190, q 191, q 192, q 193, q 194, q 195, q 196, q 197, q 198, q 199, q 200, q 201, q 202, q 203, q 204, q 205, q 206, q 207, q 208, q 209, q 210, q 211, q 212, q 213, q 214, q 215, q 216, q 217, q 218, q 219, q 220, q 221, q 222, q 223, q 224, q 225, q 226, q 227, q 228, q 229, q 230, q 231, q 232, q 233, q 234, q 235, q 236, q 237, q 238, q 239, q 240, q 241, q 242, q 243, q 244, q 245, q 246, q 247, q 248, q 249, q 250, q 251, q 252, q 253, q 254, q 255]) 0), #[]⟩
noncomputable def qSet0x47 (P : Params) : Obj := ⟨(.type "bytes_iterator"), none, (.fields #[(.bytes #[45, 33, 42, 43, 47, 97, 98, 99, 100, 101, 102, 103, 104, 105, 106, 107, 108, 109, 110, 111, 112, 113, 114, 115, 116, 117, 118, 119, 120, 121, 122, 65, 66, 67, 68, 69, 70, 71, 72, 73, 74, 75, 76, 77, 78, 79, 80, 81, 82, 83, 84, 85, 86, 87, 88, 89, 90, 48, 49, 50, 51, 52, 53, 54, 55, 56, 57] 1363), (.int (2) 0)]), #[]⟩
noncomputable def Set0 (P : Params) (os : OsState) : SharedT := ⟨(.node (qSax0 P) (.node (qSax1 P) (.node (qSet0x3 P) (.node (qSax7 P) (.node (qSax15 P) (.node (qSbx31 P) .nil .nil) (.node (qSet0x47 P) .nil .nil)) (.node (qSax23 P) (.node (qSex39 P) .nil .nil) .nil)) (.node (qSax11 P) (.node (qSax19 P) (.node (qScx35 P) .nil .nil) .nil) (.node (qSax27 P) (.node (qSex43 P) .nil .nil) .nil))) (.node (qSax5 P) (.node (qSax9 P) (.node (qSax17 P) (.node (qScx33 P) .nil .nil) .nil) (.node (qSax25 P) (.node (qSdx41 P) .nil .nil) .nil)) (.node (qSax13 P) (.node (qSax21 P) (.node (qSex37 P) .nil .nil) .nil) (.node (qSbx29 P) (.node (qSex45 P) .nil .nil) .nil)))) (.node (qSax2 P) (.node (qSax4 P) (.node (qSax8 P) (.node (qSax16 P) (.node (qScx32 P) .nil .nil) .nil) (.node (qSax24 P) (.node (qSex40 P) .nil .nil) .nil)) (.node (qSax12 P) (.node (qSax20 P) (.node (qScx36 P) .nil .nil) .nil) (.node (qSbx28 P) (.node (qSet0x44 P) .nil .nil) .nil))) (.node (qSax6 P) (.node (qSax10 P) (.node (qSax18 P) (.node (qScx34 P) .nil .nil) .nil) (.node (qSax26 P) (.node (qSex42 P) .nil .nil) .nil)) (.node (qSax14 P) (.node (qSax22 P) (.node (qSex38 P) .nil .nil) .nil) (.node (qSbx30 P) (.node (qSex46 P) .nil .nil) .nil))))), 48, lf, #[], {}, 1370, os⟩
noncomputable def qSet1x3 (P : Params) : Obj := ⟨(.type "dict"), none, (.dict #[⟨PyData.keyHash P (Str.ofString "__name__"), (.str (Str.ofString "__name__") 165), (.str (Str.ofString "cpy313.email.quoprimime") 1355)⟩,
  ⟨PyData.keyHash P (Str.ofString "__doc__"), (.str (Str.ofString "__doc__") 166), .none⟩,
  ⟨PyData.keyHash P (Str.ofString "__package__"), (.str (Str.ofString "__package__") 167), .none⟩,
  ⟨PyData.keyHash P (Str.ofString "__loader__"), (.str (Str.ofString "__loader__") 168), (.builtin "__main__.__loader__#opaque")⟩,
  ⟨PyData.keyHash P (Str.ofString "__spec__"), (.str (Str.ofString "__spec__") 169), .none⟩,
  ⟨PyData.keyHash P (Str.ofString "__annotations__"), (.str (Str.ofString "__annotations__") 170), (.ref 6)⟩,
  ⟨PyData.keyHash P (Str.ofString "__builtins__"), (.str (Str.ofString "__builtins__") 171), (.ref 4)⟩,
  ⟨PyData.keyHash P (Str.ofString "__file__"), (.str (Str.ofString "__file__") 173), (.str (Str.ofString "/claim/cut.py") 172)⟩,
  ⟨PyData.keyHash P (Str.ofString "__cached__"), (.str (Str.ofString "__cached__") 174), .none⟩,
  ⟨PyData.keyHash P (Str.ofString "_sre"), (.str (Str.ofString "_sre") 275), (.ref 12)⟩,
  ⟨PyData.keyHash P (Str.ofString "_twin_re_1"), (.str (Str.ofString "_twin_re_1") 316), (.ref 36)⟩,
  ⟨PyData.keyHash P (Str.ofString "_QUOPRI_MAP"), (.str (Str.ofString "_QUOPRI_MAP") 1344), (.ref 39)⟩,
  ⟨PyData.keyHash P (Str.ofString "_QUOPRI_HEADER_MAP"), (.str (Str.ofString "_QUOPRI_HEADER_MAP") 1345), (.ref 44)⟩,
  ⟨PyData.keyHash P (Str.ofString "_QUOPRI_BODY_MAP"), (.str (Str.ofString "_QUOPRI_BODY_MAP") 1346), (.ref 46)⟩,
  ⟨PyData.keyHash P (Str.ofString "ascii_lowercase"), (.str (Str.ofString "ascii_lowercase") 1348), (.str (Str.ofString "abcdefghijklmnopqrstuvwxyz") 1347)⟩,
  ⟨PyData.keyHash P (Str.ofString "ascii_uppercase"), (.str (Str.ofString "ascii_uppercase") 1350), (.str (Str.ofString "ABCDEFGHIJKLMNOPQRSTUVWXYZ") 1349)⟩,
  ⟨PyData.keyHash P (Str.ofString "ascii_letters"), (.str (Str.ofString "ascii_letters") 1352), (.str (Str.ofString "abcdefghijklmnopqrstuvwxyzABCDEFGHIJKLMNOPQRSTUVWXYZ") 1351)⟩,
  ⟨PyData.keyHash P (Str.ofString "digits"), (.str (Str.ofString "digits") 1354), (.str (Str.ofString "0123456789") 1353)⟩,
  ⟨PyData.keyHash P (Str.ofString "c"), (.str (Str.ofString "c") 1365), (.int (67) 1463)⟩] 19), #[]⟩
noncomputable def qSet1x44 (P : Params) : Obj := ⟨(.type "list"), none, (.seq (List.toArray [q 0, q 1, q 2, q 3, q 4, q 5, q 6, q 7, q 8, q 9, q 10, q 11, q 12, q 13, q 14, q 15, q 16, q 17, q 18, q 19, q 20, q 21, q 22, q 23, q 24, q 25, q 26, q 27, q 28, q 29, q 30, q 31, q 32, q1 33 1369, q 34, q 35, q 36, q 37, q 38, q 39, q 40, q 41, q1 42 1372, q1 43 1375, q 44, q1 45 1366, q 46, q1 47 1378, q 48, q 49, q 50, q 51, q 52, q 53, q 54, q 55, q 56, q 57, q 58, q 59, q 60, q 61, q 62, q 63, q 64, q1 65 1459, q1 66 1462, q1 67 1465, q 68, q 69, q 70, q 71, q 72, q 73, q 74, q 75, q 76, q 77, q 78, q 79, q 80, q 81, q 82, q 83, q 84, q 85, q 86, q 87, q 88, q 89, q 90, q 91, q 92, q 93, q 94, q 95, q 96, q1 97 1381, q1 98 1384, q1 99 1387, q1 100 1390, q1 101 1393, q1 102 1396, q1 103 1399, q1 104 1402, q1 105 1405, q1 106 1408, q1 107 1411, q1 108 1414, q1 109 1417, q1 110 1420, q1 111 1423, q1 112 1426, q1 113 1429, q1 114 1432, q1 115 1435, q1 116 1438, q1 117 1441, q1 118 1444, q1 119 1447, q1 120 1450, q1 121 1453, q1 122 1456, q 123, q 124, q 125, q 126, q 127, q 128, q 129, q 130, q 131, q 132, q 133, q 134, q 135, q 136, q 137, q 138, q 139, q 140, q 141, q 142, q 143, q 144, q 145, q 146, q 147, q 148, q 149, q 150, q 151, q 152, q 153, q 154, q 155, q 156, q 157, q 158, q 159, q 160, q 161, q 162, q 163, q 164, q 165, q 166, q 167, q 168, q 169, q 170, q 171, q 172, q 173, q 174, q 175, q 176, q 177, q 178, q 179, q 180, q 181, q 182, q 183, q 184, q 185, q 186, q 187, q 188, q 189, q 190, q 191, q 192, q 193, q 194, q 195, q 196, q 197, q 198, q 199, q 200, q 201, q 202, q 203, q 204, q 205, q 206, q 207, q 208, q 209, q 210, q 211, q 212, q 213, q 214, q 215, q 216, q 217, q 218, q 219, q 220, q 221, q 222, q 223, q 224, q 225, q 226, q 227, q 228, q 229, q 230, q 231, q 232, q 233, q 234, q 235, q 236, q 237, q 238, q 239, q 240, q 241, q 242, q 243, q 244, q 245, q 246, q 247, q 248, q 249, q 250, q 251, q 252, q 253, q 254, q 255]) 0), #[]⟩
noncomputable def qSet1x47 (P : Params) : Obj := ⟨(.type "bytes_iterator"), none, (.fields #[(.bytes #[45, 33, 42, 43, 47, 97, 98, 99, 100, 101, 102, 103, 104, 105, 106, 107, 108, 109, 110, 111, 112, 113, 114, 115, 116, 117, 118, 119, 120, 121, 122, 65, 66, 67, 68, 69, 70, 71, 72, 73, 74, 75, 76, 77, 78, 79, 80, 81, 82, 83, 84, 85, 86, 87, 88, 89, 90, 48, 49, 50, 51, 52, 53, 54, 55, 56, 57] 1363), (.int (34) 0)]), #[]⟩
noncomputable def Set1 (P : Params) (os : OsState) : SharedT := ⟨(.node (qSax0 P) (.node (qSax1 P) (.node (qSet1x3 P) (.node (qSax7 P) (.node (qSax15 P) (.node (qSbx31 P) .nil .nil) (.node (qSet1x47 P) .nil .nil)) (.node (qSax23 P) (.node (qSex39 P) .nil .nil) .nil)) (.node (qSax11 P) (.node (qSax19 P) (.node (qScx35 P) .nil .nil) .nil) (.node (qSax27 P) (.node (qSex43 P) .nil .nil) .nil))) (.node (qSax5 P) (.node (qSax9 P) (.node (qSax17 P) (.node (qScx33 P) .nil .nil) .nil) (.node (qSax25 P) (.node (qSdx41 P) .nil .nil) .nil)) (.node (qSax13 P) (.node (qSax21 P) (.node (qSex37 P) .nil .nil) .nil) (.node (qSbx29 P) (.node (qSex45 P) .nil .nil) .nil)))) (.node (qSax2 P) (.node (qSax4 P) (.node (qSax8 P) (.node (qSax16 P) (.node (qScx32 P) .nil .nil) .nil) (.node (qSax24 P) (.node (qSex40 P) .nil .nil) .nil)) (.node (qSax12 P) (.node (qSax20 P) (.node (qScx36 P) .nil .nil) .nil) (.node (qSbx28 P) (.node (qSet1x44 P) .nil .nil) .nil))) (.node (qSax6 P) (.node (qSax10 P) (.node (qSax18 P) (.node (qScx34 P) .nil .nil) .nil) (.node (qSax26 P) (.node (qSex42 P) .nil .nil) .nil)) (.node (qSax14 P) (.node (qSax22 P) (.node (qSex38 P) .nil .nil) .nil) (.node (qSbx30 P) (.node (qSex46 P) .nil .nil) .nil))))), 48, lf, #[], {}, 1466, os⟩
noncomputable def qSet2x3 (P : Params) : Obj := ⟨(.type "dict"), none, (.dict #[⟨PyData.keyHash P (Str.ofString "__name__"), (.str (Str.ofString "__name__") 165), (.str (Str.ofString "cpy313.email.quoprimime") 1355)⟩,
  ⟨PyData.keyHash P (Str.ofString "__doc__"), (.str (Str.ofString "__doc__") 166), .none⟩,
  ⟨PyData.keyHash P (Str.ofString "__package__"), (.str (Str.ofString "__package__") 167), .none⟩,
  ⟨PyData.keyHash P (Str.ofString "__loader__"), (.str (Str.ofString "__loader__") 168), (.builtin "__main__.__loader__#opaque")⟩,
  ⟨PyData.keyHash P (Str.ofString "__spec__"), (.str (Str.ofString "__spec__") 169), .none⟩,
  ⟨PyData.keyHash P (Str.ofString "__annotations__"), (.str (Str.ofString "__annotations__") 170), (.ref 6)⟩,
  ⟨PyData.keyHash P (Str.ofString "__builtins__"), (.str (Str.ofString "__builtins__") 171), (.ref 4)⟩,
  ⟨PyData.keyHash P (Str.ofString "__file__"), (.str (Str.ofString "__file__") 173), (.str (Str.ofString "/claim/cut.py") 172)⟩,
  ⟨PyData.keyHash P (Str.ofString "__cached__"), (.str (Str.ofString "__cached__") 174), .none⟩,
  ⟨PyData.keyHash P (Str.ofString "_sre"), (.str (Str.ofString "_sre") 275), (.ref 12)⟩,
  ⟨PyData.keyHash P (Str.ofString "_twin_re_1"), (.str (Str.ofString "_twin_re_1") 316), (.ref 36)⟩,
  ⟨PyData.keyHash P (Str.ofString "_QUOPRI_MAP"), (.str (Str.ofString "_QUOPRI_MAP") 1344), (.ref 39)⟩,
  ⟨PyData.keyHash P (Str.ofString "_QUOPRI_HEADER_MAP"), (.str (Str.ofString "_QUOPRI_HEADER_MAP") 1345), (.ref 44)⟩,
  ⟨PyData.keyHash P (Str.ofString "_QUOPRI_BODY_MAP"), (.str (Str.ofString "_QUOPRI_BODY_MAP") 1346), (.ref 46)⟩,
  ⟨PyData.keyHash P (Str.ofString "ascii_lowercase"), (.str (Str.ofString "ascii_lowercase") 1348), (.str (Str.ofString "abcdefghijklmnopqrstuvwxyz") 1347)⟩,
  ⟨PyData.keyHash P (Str.ofString "ascii_uppercase"), (.str (Str.ofString "ascii_uppercase") 1350), (.str (Str.ofString "ABCDEFGHIJKLMNOPQRSTUVWXYZ") 1349)⟩,
  ⟨PyData.keyHash P (Str.ofString "ascii_letters"), (.str (Str.ofString "ascii_letters") 1352), (.str (Str.ofString "abcdefghijklmnopqrstuvwxyzABCDEFGHIJKLMNOPQRSTUVWXYZ") 1351)⟩,
  ⟨PyData.keyHash P (Str.ofString "digits"), (.str (Str.ofString "digits") 1354), (.str (Str.ofString "0123456789") 1353)⟩,
  ⟨PyData.keyHash P (Str.ofString "c"), (.str (Str.ofString "c") 1365), (.int (56) 1559)⟩] 19), #[]⟩
noncomputable def qSet2x44 (P : Params) : Obj := ⟨(.type "list"), none, (.seq (List.toArray [q 0, q 1, q 2, q 3, q 4, q 5, q 6, q 7, q 8, q 9, q 10, q 11, q 12, q 13, q 14, q 15, q 16, q 17, q 18, q 19, q 20, q 21, q 22, q 23, q 24, q 25, q 26, q 27, q 28, q 29, q 30, q 31, q 32, q1 33 1369, q 34, q 35, q 36, q 37, q 38, q 39, q 40, q 41, q1 42 1372, q1 43 1375, q 44, q1 45 1366, q 46, q1 47 1378, q1 48 1537, q1 49 1540, q1 50 1543, q1 51 1546, q1 52 1549, q1 53 1552, q1 54 1555, q1 55 1558, q1 56 1561, q 57, q 58, q 59, q 60, q 61, q 62, q 63, q 64, q1 65 1459, q1 66 1462, q1 67 1465, q1 68 1468, q1 69 1471, q1 70 1474, q1 71 1477, q1 72 1480, q1 73 1483, q1 74 1486, q1 75 1489, q1 76 1492, q1 77 1495, q1 78 1498, q1 79 1501, q1 80 1504, q1 81 1507, q1 82 1510, q1 83 1513, q1 84 1516, q1 85 1519, q1 86 1522, q1 87 1525, q1 88 1528, q1 89 1531, q1 90 1534, q 91, q 92, q 93, q 94, q 95, q 96, q1 97 1381, q1 98 1384, q1 99 1387, q1 100 1390, q1 101 1393, q1 102 1396, q1 103 1399, q1 104 1402, q1 105 1405, q1 106 1408, q1 107 1411, q1 108 1414, q1 109 1417, q1 110 1420, q1 111 1423, q1 112 1426, q1 113 1429, q1 114 1432, q1 115 1435, q1 116 1438, q1 117 1441, q1 118 1444, q1 119 1447, q1 120 1450, q1 121 1453, q1 122 1456, q 123, q 124, q 125, q 126, q 127, q 128, q 129, q 130, q 131, q 132, q 133, q 134, q 135, q 136, q 137, q 138, q 139, q 140, q 141, q 142, q 143, q 144, q 145, q 146, q 147, q 148, q 149, q 150, q 151, q 152, q 153, q 154, q 155, q 156, q 157, q 158, q 159, q 160, q 161, q 162, q 163, q 164, q 165, q 166, q 167, q 168, q 169, q 170, q 171, q 172, q 173, q 174, q 175, q 176, q 177, q 178, q 179, q 180, q 181, q 182, q 183, q 184, q 185, q 186, q 187, q 188, q 189, q 190, q 191, q 192, q 193, q 194, q 195, q 196, q 197, q 198, q 199, q 200, q 201, q 202, q 203, q 204, q 205, q 206, q 207, q 208, q 209, q 210, q 211, q 212, q 213, q 214, q 215, q 216, q 217, q 218, q 219, q 220, q 221, q 222, q 223, q 224, q 225, q 226, q 227, q 228, q 229, q 230, q 231, q 232, q 233, q 234, q 235, q 236, q 237, q 238, q 239, q 240, q 241, q 242, q 243, q 244, q 245, q 246, q 247, q 248, q 249, q 250, q 251, q 252, q 253, q 254, q 255]) 0), #[]⟩
noncomputable def qSet2x47 (P : Params) : Obj := ⟨(.type "bytes_iterator"), none, (.fields #[(.bytes #[45, 33, 42, 43, 47, 97, 98, 99, 100, 101, 102, 103, 104, 105, 106, 107, 108, 109, 110, 111, 112, 113, 114, 115, 116, 117, 118, 119, 120, 121, 122, 65, 66, 67, 68, 69, 70, 71, 72, 73, 74, 75, 76, 77, 78, 79, 80, 81, 82, 83, 84, 85, 86, 87, 88, 89, 90, 48, 49, 50, 51, 52, 53, 54, 55, 56, 57] 1363), (.int (66) 0)]), #[]⟩
noncomputable def Set2 (P : Params) (os : OsState) : SharedT := ⟨(.node (qSax0 P) (.node (qSax1 P) (.node (qSet2x3 P) (.node (qSax7 P) (.node (qSax15 P) (.node (qSbx31 P) .nil .nil) (.node (qSet2x47 P) .nil .nil)) (.node (qSax23 P) (.node (qSex39 P) .nil .nil) .nil)) (.node (qSax11 P) (.node (qSax19 P) (.node (qScx35 P) .nil .nil) .nil) (.node (qSax27 P) (.node (qSex43 P) .nil .nil) .nil))) (.node (qSax5 P) (.node (qSax9 P) (.node (qSax17 P) (.node (qScx33 P) .nil .nil) .nil) (.node (qSax25 P) (.node (qSdx41 P) .nil .nil) .nil)) (.node (qSax13 P) (.node (qSax21 P) (.node (qSex37 P) .nil .nil) .nil) (.node (qSbx29 P) (.node (qSex45 P) .nil .nil) .nil)))) (.node (qSax2 P) (.node (qSax4 P) (.node (qSax8 P) (.node (qSax16 P) (.node (qScx32 P) .nil .nil) .nil) (.node (qSax24 P) (.node (qSex40 P) .nil .nil) .nil)) (.node (qSax12 P) (.node (qSax20 P) (.node (qScx36 P) .nil .nil) .nil) (.node (qSbx28 P) (.node (qSet2x44 P) .nil .nil) .nil))) (.node (qSax6 P) (.node (qSax10 P) (.node (qSax18 P) (.node (qScx34 P) .nil .nil) .nil) (.node (qSax26 P) (.node (qSex42 P) .nil .nil) .nil)) (.node (qSax14 P) (.node (qSax22 P) (.node (qSex38 P) .nil .nil) .nil) (.node (qSbx30 P) (.node (qSex46 P) .nil .nil) .nil))))), 48, lf, #[], {}, 1562, os⟩
noncomputable def qSfx3 (P : Params) : Obj := ⟨(.type "dict"), none, (.dict #[⟨PyData.keyHash P (Str.ofString "__name__"), (.str (Str.ofString "__name__") 165), (.str (Str.ofString "cpy313.email.quoprimime") 1355)⟩,
  ⟨PyData.keyHash P (Str.ofString "__doc__"), (.str (Str.ofString "__doc__") 166), .none⟩,
  ⟨PyData.keyHash P (Str.ofString "__package__"), (.str (Str.ofString "__package__") 167), .none⟩,
  ⟨PyData.keyHash P (Str.ofString "__loader__"), (.str (Str.ofString "__loader__") 168), (.builtin "__main__.__loader__#opaque")⟩,
  ⟨PyData.keyHash P (Str.ofString "__spec__"), (.str (Str.ofString "__spec__") 169), .none⟩,
  ⟨PyData.keyHash P (Str.ofString "__annotations__"), (.str (Str.ofString "__annotations__") 170), (.ref 6)⟩,
  ⟨PyData.keyHash P (Str.ofString "__builtins__"), (.str (Str.ofString "__builtins__") 171), (.ref 4)⟩,
  ⟨PyData.keyHash P (Str.ofString "__file__"), (.str (Str.ofString "__file__") 173), (.str (Str.ofString "/claim/cut.py") 172)⟩,
  ⟨PyData.keyHash P (Str.ofString "__cached__"), (.str (Str.ofString "__cached__") 174), .none⟩,
  ⟨PyData.keyHash P (Str.ofString "_sre"), (.str (Str.ofString "_sre") 275), (.ref 12)⟩,
  ⟨PyData.keyHash P (Str.ofString "_twin_re_1"), (.str (Str.ofString "_twin_re_1") 316), (.ref 36)⟩,
  ⟨PyData.keyHash P (Str.ofString "_QUOPRI_MAP"), (.str (Str.ofString "_QUOPRI_MAP") 1344), (.ref 39)⟩,
  ⟨PyData.keyHash P (Str.ofString "_QUOPRI_HEADER_MAP"), (.str (Str.ofString "_QUOPRI_HEADER_MAP") 1345), (.ref 44)⟩,
  ⟨PyData.keyHash P (Str.ofString "_QUOPRI_BODY_MAP"), (.str (Str.ofString "_QUOPRI_BODY_MAP") 1346), (.ref 46)⟩,
  ⟨PyData.keyHash P (Str.ofString "ascii_lowercase"), (.str (Str.ofString "ascii_lowercase") 1348), (.str (Str.ofString "abcdefghijklmnopqrstuvwxyz") 1347)⟩,
  ⟨PyData.keyHash P (Str.ofString "ascii_uppercase"), (.str (Str.ofString "ascii_uppercase") 1350), (.str (Str.ofString "ABCDEFGHIJKLMNOPQRSTUVWXYZ") 1349)⟩,
  ⟨PyData.keyHash P (Str.ofString "ascii_letters"), (.str (Str.ofString "ascii_letters") 1352), (.str (Str.ofString "abcdefghijklmnopqrstuvwxyzABCDEFGHIJKLMNOPQRSTUVWXYZ") 1351)⟩,
  ⟨PyData.keyHash P (Str.ofString "digits"), (.str (Str.ofString "digits") 1354), (.str (Str.ofString "0123456789") 1353)⟩,
  ⟨PyData.keyHash P (Str.ofString "c"), (.str (Str.ofString "c") 1365), (.int (57) 1562)⟩] 19), #[]⟩
noncomputable def qSfx44 (P : Params) : Obj := ⟨(.type "list"), none, (.seq (List.toArray [q 0, q 1, q 2, q 3, q 4, q 5, q 6, q 7, q 8, q 9, q 10, q 11, q 12, q 13, q 14, q 15, q 16, q 17, q 18, q 19, q 20, q 21, q 22, q 23, q 24, q 25, q 26, q 27, q 28, q 29, q 30, q 31, q 32, q1 33 1369, q 34, q 35, q 36, q 37, q 38, q 39, q 40, q 41, q1 42 1372, q1 43 1375, q 44, q1 45 1366, q 46, q1 47 1378, q1 48 1537, q1 49 1540, q1 50 1543, q1 51 1546, q1 52 1549, q1 53 1552, q1 54 1555, q1 55 1558, q1 56 1561, q1 57 1564, q 58, q 59, q 60, q 61, q 62, q 63, q 64, q1 65 1459, q1 66 1462, q1 67 1465, q1 68 1468, q1 69 1471, q1 70 1474, q1 71 1477, q1 72 1480, q1 73 1483, q1 74 1486, q1 75 1489, q1 76 1492, q1 77 1495, q1 78 1498, q1 79 1501, q1 80 1504, q1 81 1507, q1 82 1510, q1 83 1513, q1 84 1516, q1 85 1519, q1 86 1522, q1 87 1525, q1 88 1528, q1 89 1531, q1 90 1534, q 91, q 92, q 93, q 94, q 95, q 96, q1 97 1381, q1 98 1384, q1 99 1387, q1 100 1390, q1 101 1393, q1 102 1396, q1 103 1399, q1 104 1402, q1 105 1405, q1 106 1408, q1 107 1411, q1 108 1414, q1 109 1417, q1 110 1420, q1 111 1423, q1 112 1426, q1 113 1429, q1 114 1432, q1 115 1435, q1 116 1438, q1 117 1441, q1 118 1444, q1 119 1447, q1 120 1450, q1 121 1453, q1 122 1456, q 123, q 124, q 125, q 126, q 127, q 128, q 129, q 130, q 131, q 132, q 133, q 134, q 135, q 136, q 137, q 138, q 139, q 140, q 141, q 142, q 143, q 144, q 145, q 146, q 147, q 148, q 149, q 150, q 151, q 152, q 153, q 154, q 155, q 156, q 157, q 158, q 159, q 160, q 161, q 162, q 163, q 164, q 165, q 166, q 167, q 168, q 169, q 170, q 171, q 172, q 173, q 174, q 175, q 176, q 177, q 178, q 179, q 180, q 181, q 182, q 183, q 184, q 185, q 186, q 187, q 188, q 189, q 190, q 191, q 192, q 193, q 194, q 195, q 196, q 197, q 198, q 199, q 200, q 201, q 202, q 203, q 204, q 205, q 206, q 207, q 208, q 209, q 210, q 211, q 212, q 213, q 214, q 215, q 216, q 217, q 218, q 219, q 220, q 221, q 222, q 223, q 224, q 225, q 226, q 227, q 228, q 229, q 230, q 231, q 232, q 233, q 234, q 235, q 236, q 237, q 238, q 239, q 240, q 241, q 242, q 243, q 244, q 245, q 246, q 247, q 248, q 249, q 250, q 251, q 252, q 253, q 254, q 255]) 0), #[]⟩
noncomputable def qSfx47 (P : Params) : Obj := ⟨(.type "bytes_iterator"), none, (.fields #[.none, (.int (67) 0)]), #[]⟩
noncomputable def qSfx48 (P : Params) : Obj := ⟨(.type "tuple"), none, (.seq #[] 0), #[]⟩
noncomputable def qSfx49 (P : Params) : Obj := ⟨(.type "StopIteration"), none, (.fields #[(.ref 48), .none, .none, .none, (.bool false), .none]), #[]⟩
noncomputable def Sf (P : Params) (os : OsState) : SharedT := ⟨(.node (qSax0 P) (.node (qSax1 P) (.node (qSfx3 P) (.node (qSax7 P) (.node (qSax15 P) (.node (qSbx31 P) .nil .nil) (.node (qSfx47 P) .nil .nil)) (.node (qSax23 P) (.node (qSex39 P) .nil .nil) .nil)) (.node (qSax11 P) (.node (qSax19 P) (.node (qScx35 P) .nil .nil) .nil) (.node (qSax27 P) (.node (qSex43 P) .nil .nil) .nil))) (.node (qSax5 P) (.node (qSax9 P) (.node (qSax17 P) (.node (qScx33 P) .nil .nil) (.node (qSfx49 P) .nil .nil)) (.node (qSax25 P) (.node (qSdx41 P) .nil .nil) .nil)) (.node (qSax13 P) (.node (qSax21 P) (.node (qSex37 P) .nil .nil) .nil) (.node (qSbx29 P) (.node (qSex45 P) .nil .nil) .nil)))) (.node (qSax2 P) (.node (qSax4 P) (.node (qSax8 P) (.node (qSax16 P) (.node (qScx32 P) .nil .nil) (.node (qSfx48 P) .nil .nil)) (.node (qSax24 P) (.node (qSex40 P) .nil .nil) .nil)) (.node (qSax12 P) (.node (qSax20 P) (.node (qScx36 P) .nil .nil) .nil) (.node (qSbx28 P) (.node (qSfx44 P) .nil .nil) .nil))) (.node (qSax6 P) (.node (qSax10 P) (.node (qSax18 P) (.node (qScx34 P) .nil .nil) .nil) (.node (qSax26 P) (.node (qSex42 P) .nil .nil) .nil)) (.node (qSax14 P) (.node (qSax22 P) (.node (qSex38 P) .nil .nil) .nil) (.node (qSbx30 P) (.node (qSex46 P) .nil .nil) .nil))))), 50, lf, #[], {}, 1565, os⟩
noncomputable def qSgx3 (P : Params) : Obj := ⟨(.type "dict"), none, (.dict #[⟨PyData.keyHash P (Str.ofString "__name__"), (.str (Str.ofString "__name__") 165), (.str (Str.ofString "cpy313.email.quoprimime") 1355)⟩,
  ⟨PyData.keyHash P (Str.ofString "__doc__"), (.str (Str.ofString "__doc__") 166), .none⟩,
  ⟨PyData.keyHash P (Str.ofString "__package__"), (.str (Str.ofString "__package__") 167), .none⟩,
  ⟨PyData.keyHash P (Str.ofString "__loader__"), (.str (Str.ofString "__loader__") 168), (.builtin "__main__.__loader__#opaque")⟩,
  ⟨PyData.keyHash P (Str.ofString "__spec__"), (.str (Str.ofString "__spec__") 169), .none⟩,
  ⟨PyData.keyHash P (Str.ofString "__annotations__"), (.str (Str.ofString "__annotations__") 170), (.ref 6)⟩,
  ⟨PyData.keyHash P (Str.ofString "__builtins__"), (.str (Str.ofString "__builtins__") 171), (.ref 4)⟩,
  ⟨PyData.keyHash P (Str.ofString "__file__"), (.str (Str.ofString "__file__") 173), (.str (Str.ofString "/claim/cut.py") 172)⟩,
  ⟨PyData.keyHash P (Str.ofString "__cached__"), (.str (Str.ofString "__cached__") 174), .none⟩,
  ⟨PyData.keyHash P (Str.ofString "_sre"), (.str (Str.ofString "_sre") 275), (.ref 12)⟩,
  ⟨PyData.keyHash P (Str.ofString "_twin_re_1"), (.str (Str.ofString "_twin_re_1") 316), (.ref 36)⟩,
  ⟨PyData.keyHash P (Str.ofString "_QUOPRI_MAP"), (.str (Str.ofString "_QUOPRI_MAP") 1344), (.ref 39)⟩,
  ⟨PyData.keyHash P (Str.ofString "_QUOPRI_HEADER_MAP"), (.str (Str.ofString "_QUOPRI_HEADER_MAP") 1345), (.ref 44)⟩,
  ⟨PyData.keyHash P (Str.ofString "_QUOPRI_BODY_MAP"), (.str (Str.ofString "_QUOPRI_BODY_MAP") 1346), (.ref 46)⟩,
  ⟨PyData.keyHash P (Str.ofString "ascii_lowercase"), (.str (Str.ofString "ascii_lowercase") 1348), (.str (Str.ofString "abcdefghijklmnopqrstuvwxyz") 1347)⟩,
  ⟨PyData.keyHash P (Str.ofString "ascii_uppercase"), (.str (Str.ofString "ascii_uppercase") 1350), (.str (Str.ofString "ABCDEFGHIJKLMNOPQRSTUVWXYZ") 1349)⟩,
  ⟨PyData.keyHash P (Str.ofString "ascii_letters"), (.str (Str.ofString "ascii_letters") 1352), (.str (Str.ofString "abcdefghijklmnopqrstuvwxyzABCDEFGHIJKLMNOPQRSTUVWXYZ") 1351)⟩,
  ⟨PyData.keyHash P (Str.ofString "digits"), (.str (Str.ofString "digits") 1354), (.str (Str.ofString "0123456789") 1353)⟩,
  ⟨PyData.keyHash P (Str.ofString "c"), (.str (Str.ofString "c") 1365), (.int (57) 1562)⟩] 19), #[]⟩
noncomputable def qSgx44 (P : Params) : Obj := ⟨(.type "list"), none, (.seq (List.toArray [q 0, q 1, q 2, q 3, q 4, q 5, q 6, q 7, q 8, q 9, q 10, q 11, q 12, q 13, q 14, q 15, q 16, q 17, q 18, q 19, q 20, q 21, q 22, q 23, q 24, q 25, q 26, q 27, q 28, q 29, q 30, q 31, q1 95 1565, q1 33 1369, q 34, q 35, q 36, q 37, q 38, q 39, q 40, q 41, q1 42 1372, q1 43 1375, q 44, q1 45 1366, q 46, q1 47 1378, q1 48 1537, q1 49 1540, q1 50 1543, q1 51 1546, q1 52 1549, q1 53 1552, q1 54 1555, q1 55 1558, q1 56 1561, q1 57 1564, q 58, q 59, q 60, q 61, q 62, q 63, q 64, q1 65 1459, q1 66 1462, q1 67 1465, q1 68 1468, q1 69 1471, q1 70 1474, q1 71 1477, q1 72 1480, q1 73 1483, q1 74 1486, q1 75 1489, q1 76 1492, q1 77 1495, q1 78 1498, q1 79 1501, q1 80 1504, q1 81 1507, q1 82 1510, q1 83 1513, q1 84 1516, q1 85 1519, q1 86 1522, q1 87 1525, q1 88 1528, q1 89 1531, q1 90 1534, q 91, q 92, q 93, q 94, q 95, q 96, q1 97 1381, q1 98 1384, q1 99 1387, q1 100 1390, q1 101 1393, q1 102 1396, q1 103 1399, q1 104 1402, q1 105 1405, q1 106 1408, q1 107 1411, q1 108 1414, q1 109 1417, q1 110 1420, q1 111 1423, q1 112 1426, q1 113 1429, q1 114 1432, q1 115 1435, q1 116 1438, q1 117 1441, q1 118 1444, q1 119 1447, q1 120 1450, q1 121 1453, q1 122 1456, q 123, q 124, q 125, q 126, q 127, q 128, q 129, q 130, q 131, q 132, q 133, q 134, q 135, q 136, q 137, q 138, q 139, q 140, q 141, q 142, q 143, q 144, q 145, q 146, q 147, q 148, q 149, q 150, q 151, q 152, q 153, q 154, q 155, q 156, q 157, q 158, q 159, q 160, q 161, q 162, q 163, q 164, q 165, q 166, q 167, q 168, q 169, q 170, q 171, q 172, q 173, q 174, q 175, q 176, q 177, q 178, q 179, q 180, q 181, q 182, q 183, q 184, q 185, q 186, q 187, q 188, q 189, q 190, q 191, q 192, q 193, q 194, q 195, q 196, q 197, q 198, q 199, q 200, q 201, q 202, q 203, q 204, q 205, q 206, q 207, q 208, q 209, q 210, q 211, q 212, q 213, q 214, q 215, q 216, q 217, q 218, q 219, q 220, q 221, q 222, q 223, q 224, q 225, q 226, q 227, q 228, q 229, q 230, q 231, q 232, q 233, q 234, q 235, q 236, q 237, q 238, q 239, q 240, q 241, q 242, q 243, q 244, q 245, q 246, q 247, q 248, q 249, q 250, q 251, q 252, q 253, q 254, q 255]) 0), #[]⟩
noncomputable def qSgx47 (P : Params) : Obj := ⟨(.type "bytes_iterator"), none, (.fields #[.none, (.int (67) 0)]), #[]⟩
noncomputable def qSgx49 (P : Params) : Obj := ⟨(.type "StopIteration"), none, (.fields #[(.ref 48), .none, .none, .none, (.bool false), .none]), #[]⟩
noncomputable def Sg (P : Params) (os : OsState) : SharedT := ⟨(.node (qSax0 P) (.node (qSax1 P) (.node (qSgx3 P) (.node (qSax7 P) (.node (qSax15 P) (.node (qSbx31 P) .nil .nil) (.node (qSgx47 P) .nil .nil)) (.node (qSax23 P) (.node (qSex39 P) .nil .nil) .nil)) (.node (qSax11 P) (.node (qSax19 P) (.node (qScx35 P) .nil .nil) .nil) (.node (qSax27 P) (.node (qSex43 P) .nil .nil) .nil))) (.node (qSax5 P) (.node (qSax9 P) (.node (qSax17 P) (.node (qScx33 P) .nil .nil) (.node (qSgx49 P) .nil .nil)) (.node (qSax25 P) (.node (qSdx41 P) .nil .nil) .nil)) (.node (qSax13 P) (.node (qSax21 P) (.node (qSex37 P) .nil .nil) .nil) (.node (qSbx29 P) (.node (qSex45 P) .nil .nil) .nil)))) (.node (qSax2 P) (.node (qSax4 P) (.node (qSax8 P) (.node (qSax16 P) (.node (qScx32 P) .nil .nil) (.node (qSfx48 P) .nil .nil)) (.node (qSax24 P) (.node (qSex40 P) .nil .nil) .nil)) (.node (qSax12 P) (.node (qSax20 P) (.node (qScx36 P) .nil .nil) .nil) (.node (qSbx28 P) (.node (qSgx44 P) .nil .nil) .nil))) (.node (qSax6 P) (.node (qSax10 P) (.node (qSax18 P) (.node (qScx34 P) .nil .nil) .nil) (.node (qSax26 P) (.node (qSex42 P) .nil .nil) .nil)) (.node (qSax14 P) (.node (qSax22 P) (.node (qSex38 P) .nil .nil) .nil) (.node (qSbx30 P) (.node (qSex46 P) .nil .nil) .nil))))), 50, lf, #[], {}, 1568, os⟩
noncomputable def qSgt0x3 (P : Params) : Obj := ⟨(.type "dict"), none, (.dict #[⟨PyData.keyHash P (Str.ofString "__name__"), (.str (Str.ofString "__name__") 165), (.str (Str.ofString "cpy313.email.quoprimime") 1355)⟩,
  ⟨PyData.keyHash P (Str.ofString "__doc__"), (.str (Str.ofString "__doc__") 166), .none⟩,
  ⟨PyData.keyHash P (Str.ofString "__package__"), (.str (Str.ofString "__package__") 167), .none⟩,
  ⟨PyData.keyHash P (Str.ofString "__loader__"), (.str (Str.ofString "__loader__") 168), (.builtin "__main__.__loader__#opaque")⟩,
  ⟨PyData.keyHash P (Str.ofString "__spec__"), (.str (Str.ofString "__spec__") 169), .none⟩,
  ⟨PyData.keyHash P (Str.ofString "__annotations__"), (.str (Str.ofString "__annotations__") 170), (.ref 6)⟩,
  ⟨PyData.keyHash P (Str.ofString "__builtins__"), (.str (Str.ofString "__builtins__") 171), (.ref 4)⟩,
  ⟨PyData.keyHash P (Str.ofString "__file__"), (.str (Str.ofString "__file__") 173), (.str (Str.ofString "/claim/cut.py") 172)⟩,
  ⟨PyData.keyHash P (Str.ofString "__cached__"), (.str (Str.ofString "__cached__") 174), .none⟩,
  ⟨PyData.keyHash P (Str.ofString "_sre"), (.str (Str.ofString "_sre") 275), (.ref 12)⟩,
  ⟨PyData.keyHash P (Str.ofString "_twin_re_1"), (.str (Str.ofString "_twin_re_1") 316), (.ref 36)⟩,
  ⟨PyData.keyHash P (Str.ofString "_QUOPRI_MAP"), (.str (Str.ofString "_QUOPRI_MAP") 1344), (.ref 39)⟩,
  ⟨PyData.keyHash P (Str.ofString "_QUOPRI_HEADER_MAP"), (.str (Str.ofString "_QUOPRI_HEADER_MAP") 1345), (.ref 44)⟩,
  ⟨PyData.keyHash P (Str.ofString "_QUOPRI_BODY_MAP"), (.str (Str.ofString "_QUOPRI_BODY_MAP") 1346), (.ref 46)⟩,
  ⟨PyData.keyHash P (Str.ofString "ascii_lowercase"), (.str (Str.ofString "ascii_lowercase") 1348), (.str (Str.ofString "abcdefghijklmnopqrstuvwxyz") 1347)⟩,
  ⟨PyData.keyHash P (Str.ofString "ascii_uppercase"), (.str (Str.ofString "ascii_uppercase") 1350), (.str (Str.ofString "ABCDEFGHIJKLMNOPQRSTUVWXYZ") 1349)⟩,
  ⟨PyData.keyHash P (Str.ofString "ascii_letters"), (.str (Str.ofString "ascii_letters") 1352), (.str (Str.ofString "abcdefghijklmnopqrstuvwxyzABCDEFGHIJKLMNOPQRSTUVWXYZ") 1351)⟩,
  ⟨PyData.keyHash P (Str.ofString "digits"), (.str (Str.ofString "digits") 1354), (.str (Str.ofString "0123456789") 1353)⟩,
  ⟨PyData.keyHash P (Str.ofString "c"), (.str (Str.ofString "c") 1365), (.int (33) 1572)⟩] 19), #[]⟩
noncomputable def qSgt0x46 (P : Params) : Obj := ⟨(.type "list"), none, (.seq (List.toArray [q 0, q 1, q 2, q 3, q 4, q 5, q 6, q 7, q 8, q 9, q 10, q 11, q 12, q 13, q 14, q 15, q 16, q 17, q 18, q 19, q 20, q 21, q 22, q 23, q 24, q 25, q 26, q 27, q 28, q 29, q 30, q 31, q1 32 1571, q1 33 1574, q 34, q 35, q 36, q 37, q 38, q 39, q 40, q 41, q 42, q 43, q 44, q 45, q 46, q 47, q 48, q 49, q 50, q 51, q 52, q 53, q 54, q 55, q 56, q 57, q 58, q 59, q 60, q 61, q 62, q 63, q 64, q 65, q 66, q 67, q 68, q 69, q 70, q 71, q 72, q 73, q 74, q 75, q 76, q 77, q 78, q 79, q 80, q 81, q 82, q 83, q 84, q 85, q 86, q 87, q 88, q 89, q 90, q 91, q 92, q 93, q 94, q 95, q 96, q 97, q 98, q 99, q 100, q 101, q 102, q 103, q 104, q 105, q 106, q 107, q 108, q 109, q 110, q 111, q 112, q 113, q 114, q 115, q 116, q 117, q 118, q 119, q 120, q 121, q 122, q 123, q 124, q 125, q 126, q 127, q 128, q 129, q 130, q 131, q 132, q 133, q 134, q 135, q 136, q 137, q 138, q 139, q 140, q 141, q 142, q 143, q 144, q 145, q 146, q 147, q 148, q 149, q 150, q 151, q 152, q 153, q 154, q 155, q 156, q 157, q 158, q 159, q 160, q 161, q 162, q 163, q 164, q 165, q 166, q 167, q 168, q 169, q 170, q 171, q 172, q 173, q 174, q 175, q 176, q 177, q 178, q 179, q 180, q 181, q 182, q 183, q 184, q 185, q 186, q 187, q 188, q 189, q 190, q 191, q 192, q 193, q 194, q 195, q 196, q 197, q 198, q 199, q 200, q 201, q 202, q 203, q 204, q 205, q 206, q 207, q 208, q 209, q 210, q 211, q 212, q 213, q 214, q 215, q 216, q 217, q 218, q 219, q 220, q 221, q 222, q 223, q 224, q 225, q 226, q 227, q 228, q 229, q 230, q 231, q 232, q 233, q 234, q 235, q 236, q 237, q 238, q 239, q 240, q 241, q 242, q 243, q 244, q 245, q 246, q 247, q 248, q 249, q 250, q 251, q 252, q 253, q 254, q 255]) 0), #[]⟩
noncomputable def qSgt0x50 (P : Params) : Obj := ⟨(.type "bytes_iterator"), none, (.fields #[(.bytes #[32, 33, 34, 35, 36, 37, 38, 39, 40, 41, 42, 43, 44, 45, 46, 47, 48, 49, 50, 51, 52, 53, 54, 55, 56, 57, 58, 59, 60, 62, 63, 64, 65, 66, 67, 68, 69, 70, 71, 72, 73, 74, 75, 76, 77, 78, 79, 80, 81, 82, 83, 84, 85, 86, 87, 88, 89, 90, 91, 92, 93, 94, 95, 96, 97, 98, 99, 100, 101, 102, 103, 104, 105, 106, 107, 108, 109, 110, 111, 112, 113, 114, 115, 116, 117, 118, 119, 120, 121, 122, 123, 124, 125, 126, 9] 1568), (.int (2) 0)]), #[]⟩
noncomputable def Sgt0 (P : Params) (os : OsState) : SharedT := ⟨(.node (qSax0 P) (.node (qSax1 P) (.node (qSgt0x3 P) (.node (qSax7 P) (.node (qSax15 P) (.node (qSbx31 P) .nil .nil) (.node (qSgx47 P) .nil .nil)) (.node (qSax23 P) (.node (qSex39 P) .nil .nil) .nil)) (.node (qSax11 P) (.node (qSax19 P) (.node (qScx35 P) .nil .nil) .nil) (.node (qSax27 P) (.node (qSex43 P) .nil .nil) .nil))) (.node (qSax5 P) (.node (qSax9 P) (.node (qSax17 P) (.node (qScx33 P) .nil .nil) (.node (qSgx49 P) .nil .nil)) (.node (qSax25 P) (.node (qSdx41 P) .nil .nil) .nil)) (.node (qSax13 P) (.node (qSax21 P) (.node (qSex37 P) .nil .nil) .nil) (.node (qSbx29 P) (.node (qSex45 P) .nil .nil) .nil)))) (.node (qSax2 P) (.node (qSax4 P) (.node (qSax8 P) (.node (qSax16 P) (.node (qScx32 P) .nil .nil) (.node (qSfx48 P) .nil .nil)) (.node (qSax24 P) (.node (qSex40 P) .nil .nil) .nil)) (.node (qSax12 P) (.node (qSax20 P) (.node (qScx36 P) .nil .nil) .nil) (.node (qSbx28 P) (.node (qSgx44 P) .nil .nil) .nil))) (.node (qSax6 P) (.node (qSax10 P) (.node (qSax18 P) (.node (qScx34 P) .nil .nil) (.node (qSgt0x50 P) .nil .nil)) (.node (qSax26 P) (.node (qSex42 P) .nil .nil) .nil)) (.node (qSax14 P) (.node (qSax22 P) (.node (qSex38 P) .nil .nil) .nil) (.node (qSbx30 P) (.node (qSgt0x46 P) .nil .nil) .nil))))), 51, lf, #[], {}, 1575, os⟩
noncomputable def qSgt1x3 (P : Params) : Obj := ⟨(.type "dict"), none, (.dict #[⟨PyData.keyHash P (Str.ofString "__name__"), (.str (Str.ofString "__name__") 165), (.str (Str.ofString "cpy313.email.quoprimime") 1355)⟩,
  ⟨PyData.keyHash P (Str.ofString "__doc__"), (.str (Str.ofString "__doc__") 166), .none⟩,
  ⟨PyData.keyHash P (Str.ofString "__package__"), (.str (Str.ofString "__package__") 167), .none⟩,
  ⟨PyData.keyHash P (Str.ofString "__loader__"), (.str (Str.ofString "__loader__") 168), (.builtin "__main__.__loader__#opaque")⟩,
  ⟨PyData.keyHash P (Str.ofString "__spec__"), (.str (Str.ofString "__spec__") 169), .none⟩,
  ⟨PyData.keyHash P (Str.ofString "__annotations__"), (.str (Str.ofString "__annotations__") 170), (.ref 6)⟩,
  ⟨PyData.keyHash P (Str.ofString "__builtins__"), (.str (Str.ofString "__builtins__") 171), (.ref 4)⟩,
  ⟨PyData.keyHash P (Str.ofString "__file__"), (.str (Str.ofString "__file__") 173), (.str (Str.ofString "/claim/cut.py") 172)⟩,
  ⟨PyData.keyHash P (Str.ofString "__cached__"), (.str (Str.ofString "__cached__") 174), .none⟩,
  ⟨PyData.keyHash P (Str.ofString "_sre"), (.str (Str.ofString "_sre") 275), (.ref 12)⟩,
  ⟨PyData.keyHash P (Str.ofString "_twin_re_1"), (.str (Str.ofString "_twin_re_1") 316), (.ref 36)⟩,
  ⟨PyData.keyHash P (Str.ofString "_QUOPRI_MAP"), (.str (Str.ofString "_QUOPRI_MAP") 1344), (.ref 39)⟩,
  ⟨PyData.keyHash P (Str.ofString "_QUOPRI_HEADER_MAP"), (.str (Str.ofString "_QUOPRI_HEADER_MAP") 1345), (.ref 44)⟩,
  ⟨PyData.keyHash P (Str.ofString "_QUOPRI_BODY_MAP"), (.str (Str.ofString "_QUOPRI_BODY_MAP") 1346), (.ref 46)⟩,
  ⟨PyData.keyHash P (Str.ofString "ascii_lowercase"), (.str (Str.ofString "ascii_lowercase") 1348), (.str (Str.ofString "abcdefghijklmnopqrstuvwxyz") 1347)⟩,
  ⟨PyData.keyHash P (Str.ofString "ascii_uppercase"), (.str (Str.ofString "ascii_uppercase") 1350), (.str (Str.ofString "ABCDEFGHIJKLMNOPQRSTUVWXYZ") 1349)⟩,
  ⟨PyData.keyHash P (Str.ofString "ascii_letters"), (.str (Str.ofString "ascii_letters") 1352), (.str (Str.ofString "abcdefghijklmnopqrstuvwxyzABCDEFGHIJKLMNOPQRSTUVWXYZ") 1351)⟩,
  ⟨PyData.keyHash P (Str.ofString "digits"), (.str (Str.ofString "digits") 1354), (.str (Str.ofString "0123456789") 1353)⟩,
  ⟨PyData.keyHash P (Str.ofString "c"), (.str (Str.ofString "c") 1365), (.int (66) 1668)⟩] 19), #[]⟩
noncomputable def qSgt1x46 (P : Params) : Obj := ⟨(.type "list"), none, (.seq (List.toArray [q 0, q 1, q 2, q 3, q 4, q 5, q 6, q 7, q 8, q 9, q 10, q 11, q 12, q 13, q 14, q 15, q 16, q 17, q 18, q 19, q 20, q 21, q 22, q 23, q 24, q 25, q 26, q 27, q 28, q 29, q 30, q 31, q1 32 1571, q1 33 1574, q1 34 1577, q1 35 1580, q1 36 1583, q1 37 1586, q1 38 1589, q1 39 1592, q1 40 1595, q1 41 1598, q1 42 1601, q1 43 1604, q1 44 1607, q1 45 1610, q1 46 1613, q1 47 1616, q1 48 1619, q1 49 1622, q1 50 1625, q1 51 1628, q1 52 1631, q1 53 1634, q1 54 1637, q1 55 1640, q1 56 1643, q1 57 1646, q1 58 1649, q1 59 1652, q1 60 1655, q 61, q1 62 1658, q1 63 1661, q1 64 1664, q1 65 1667, q1 66 1670, q 67, q 68, q 69, q 70, q 71, q 72, q 73, q 74, q 75, q 76, q 77, q 78, q 79, q 80, q 81, q 82, q 83, q 84, q 85, q 86, q 87, q 88, q 89, q 90, q 91, q 92, q 93, q 94, q 95, q 96, q 97, q 98, q 99, q 100, q 101, q 102, q 103, q 104, q 105, q 106, q 107, q 108, q 109, q 110, q 111, q 112, q 113, q 114, q 115, q 116, q 117, q 118, q 119, q 120, q 121, q 122, q 123, q 124, q 125, q 126, q 127, q 128, q 129, q 130, q 131, q 132, q 133, q 134, q 135, q 136, q 137, q 138, q 139, q 140, q 141, q 142, q 143, q 144, q 145, q 146, q 147, q 148, q 149, q 150, q 151, q 152, q 153, q 154, q 155, q 156, q 157, q 158, q 159, q 160, q 161, q 162, q 163, q 164, q 165, q 166, q 167, q 168, q 169, q 170, q 171, q 172, q 173, q 174, q 175, q 176, q 177, q 178, q 179, q 180, q 181, q 182, q 183, q 184, q 185, q 186, q 187, q 188, q 189, q 190, q 191, q 192, q 193, q 194, q 195, q 196, q 197, q 198, q 199, q 200, q 201, q 202, q 203, q 204, q 205, q 206, q 207, q 208, q 209, q 210, q 211, q 212, q 213, q 214, q 215, q 216, q 217, q 218, q 219, q 220, q 221, q 222, q 223, q 224, q 225, q 226, q 227, q 228, q 229, q 230, q 231, q 232, q 233, q 234, q 235, q 236, q 237, q 238, q 239, q 240, q 241, q 242, q 243, q 244, q 245, q 246, q 247, q 248, q 249, q 250, q 251, q 252, q 253, q 254, q 255]) 0), #[]⟩
noncomputable def qSgt1x50 (P : Params) : Obj := ⟨(.type "bytes_iterator"), none, (.fields #[(.bytes #[32, 33, 34, 35, 36, 37, 38, 39, 40, 41, 42, 43, 44, 45, 46, 47, 48, 49, 50, 51, 52, 53, 54, 55, 56, 57, 58, 59, 60, 62, 63, 64, 65, 66, 67, 68, 69, 70, 71, 72, 73, 74, 75, 76, 77, 78, 79, 80, 81, 82, 83, 84, 85, 86, 87, 88, 89, 90, 91, 92, 93, 94, 95, 96, 97, 98, 99, 100, 101, 102, 103, 104, 105, 106, 107, 108, 109, 110, 111, 112, 113, 114, 115, 116, 117, 118, 119, 120, 121, 122, 123, 124, 125, 126, 9] 1568), (.int (34) 0)]), #[]⟩
noncomputable def Sgt1 (P : Params) (os : OsState) : SharedT := ⟨(.node (qSax0 P) (.node (qSax1 P) (.node (qSgt1x3 P) (.node (qSax7 P) (.node (qSax15 P) (.node (qSbx31 P) .nil .nil) (.node (qSgx47 P) .nil .nil)) (.node (qSax23 P) (.node (qSex39 P) .nil .nil) .nil)) (.node (qSax11 P) (.node (qSax19 P) (.node (qScx35 P) .nil .nil) .nil) (.node (qSax27 P) (.node (qSex43 P) .nil .nil) .nil))) (.node (qSax5 P) (.node (qSax9 P) (.node (qSax17 P) (.node (qScx33 P) .nil .nil) (.node (qSgx49 P) .nil .nil)) (.node (qSax25 P) (.node (qSdx41 P) .nil .nil) .nil)) (.node (qSax13 P) (.node (qSax21 P) (.node (qSex37 P) .nil .nil) .nil) (.node (qSbx29 P) (.node (qSex45 P) .nil .nil) .nil)))) (.node (qSax2 P) (.node (qSax4 P) (.node (qSax8 P) (.node (qSax16 P) (.node (qScx32 P) .nil .nil) (.node (qSfx48 P) .nil .nil)) (.node (qSax24 P) (.node (qSex40 P) .nil .nil) .nil)) (.node (qSax12 P) (.node (qSax20 P) (.node (qScx36 P) .nil .nil) .nil) (.node (qSbx28 P) (.node (qSgx44 P) .nil .nil) .nil))) (.node (qSax6 P) (.node (qSax10 P) (.node (qSax18 P) (.node (qScx34 P) .nil .nil) (.node (qSgt1x50 P) .nil .nil)) (.node (qSax26 P) (.node (qSex42 P) .nil .nil) .nil)) (.node (qSax14 P) (.node (qSax22 P) (.node (qSex38 P) .nil .nil) .nil) (.node (qSbx30 P) (.node (qSgt1x46 P) .nil .nil) .nil))))), 51, lf, #[], {}, 1671, os⟩
noncomputable def qSgt2x3 (P : Params) : Obj := ⟨(.type "dict"), none, (.dict #[⟨PyData.keyHash P (Str.ofString "__name__"), (.str (Str.ofString "__name__") 165), (.str (Str.ofString "cpy313.email.quoprimime") 1355)⟩,
  ⟨PyData.keyHash P (Str.ofString "__doc__"), (.str (Str.ofString "__doc__") 166), .none⟩,
  ⟨PyData.keyHash P (Str.ofString "__package__"), (.str (Str.ofString "__package__") 167), .none⟩,
  ⟨PyData.keyHash P (Str.ofString "__loader__"), (.str (Str.ofString "__loader__") 168), (.builtin "__main__.__loader__#opaque")⟩,
  ⟨PyData.keyHash P (Str.ofString "__spec__"), (.str (Str.ofString "__spec__") 169), .none⟩,
  ⟨PyData.keyHash P (Str.ofString "__annotations__"), (.str (Str.ofString "__annotations__") 170), (.ref 6)⟩,
  ⟨PyData.keyHash P (Str.ofString "__builtins__"), (.str (Str.ofString "__builtins__") 171), (.ref 4)⟩,
  ⟨PyData.keyHash P (Str.ofString "__file__"), (.str (Str.ofString "__file__") 173), (.str (Str.ofString "/claim/cut.py") 172)⟩,
  ⟨PyData.keyHash P (Str.ofString "__cached__"), (.str (Str.ofString "__cached__") 174), .none⟩,
  ⟨PyData.keyHash P (Str.ofString "_sre"), (.str (Str.ofString "_sre") 275), (.ref 12)⟩,
  ⟨PyData.keyHash P (Str.ofString "_twin_re_1"), (.str (Str.ofString "_twin_re_1") 316), (.ref 36)⟩,
  ⟨PyData.keyHash P (Str.ofString "_QUOPRI_MAP"), (.str (Str.ofString "_QUOPRI_MAP") 1344), (.ref 39)⟩,
  ⟨PyData.keyHash P (Str.ofString "_QUOPRI_HEADER_MAP"), (.str (Str.ofString "_QUOPRI_HEADER_MAP") 1345), (.ref 44)⟩,
  ⟨PyData.keyHash P (Str.ofString "_QUOPRI_BODY_MAP"), (.str (Str.ofString "_QUOPRI_BODY_MAP") 1346), (.ref 46)⟩,
  ⟨PyData.keyHash P (Str.ofString "ascii_lowercase"), (.str (Str.ofString "ascii_lowercase") 1348), (.str (Str.ofString "abcdefghijklmnopqrstuvwxyz") 1347)⟩,
  ⟨PyData.keyHash P (Str.ofString "ascii_uppercase"), (.str (Str.ofString "ascii_uppercase") 1350), (.str (Str.ofString "ABCDEFGHIJKLMNOPQRSTUVWXYZ") 1349)⟩,
  ⟨PyData.keyHash P (Str.ofString "ascii_letters"), (.str (Str.ofString "ascii_letters") 1352), (.str (Str.ofString "abcdefghijklmnopqrstuvwxyzABCDEFGHIJKLMNOPQRSTUVWXYZ") 1351)⟩,
  ⟨PyData.keyHash P (Str.ofString "digits"), (.str (Str.ofString "digits") 1354), (.str (Str.ofString "0123456789") 1353)⟩,
  ⟨PyData.keyHash P (Str.ofString "c"), (.str (Str.ofString "c") 1365), (.int (98) 1764)⟩] 19), #[]⟩
noncomputable def qSgt2x46 (P : Params) : Obj := ⟨(.type "list"), none, (.seq (List.toArray [q 0, q 1, q 2, q 3, q 4, q 5, q 6, q 7, q 8, q 9, q 10, q 11, q 12, q 13, q 14, q 15, q 16, q 17, q 18, q 19, q 20, q 21, q 22, q 23, q 24, q 25, q 26, q 27, q 28, q 29, q 30, q 31, q1 32 1571, q1 33 1574, q1 34 1577, q1 35 1580, q1 36 1583, q1 37 1586, q1 38 1589, q1 39 1592, q1 40 1595, q1 41 1598, q1 42 1601, q1 43 1604, q1 44 1607, q1 45 1610, q1 46 1613, q1 47 1616, q1 48 1619, q1 49 1622, q1 50 1625, q1 51 1628, q1 52 1631, q1 53 1634, q1 54 1637, q1 55 1640, q1 56 1643, q1 57 1646, q1 58 1649, q1 59 1652, q1 60 1655, q 61, q1 62 1658, q1 63 1661, q1 64 1664, q1 65 1667, q1 66 1670, q1 67 1673, q1 68 1676, q1 69 1679, q1 70 1682, q1 71 1685, q1 72 1688, q1 73 1691, q1 74 1694, q1 75 1697, q1 76 1700, q1 77 1703, q1 78 1706, q1 79 1709, q1 80 1712, q1 81 1715, q1 82 1718, q1 83 1721, q1 84 1724, q1 85 1727, q1 86 1730, q1 87 1733, q1 88 1736, q1 89 1739, q1 90 1742, q1 91 1745, q1 92 1748, q1 93 1751, q1 94 1754, q1 95 1757, q1 96 1760, q1 97 1763, q1 98 1766, q 99, q 100, q 101, q 102, q 103, q 104, q 105, q 106, q 107, q 108, q 109, q 110, q 111, q 112, q 113, q 114, q 115, q 116, q 117, q 118, q 119, q 120, q 121, q 122, q 123, q 124, q 125, q 126, q 127, q 128, q 129, q 130, q 131, q 132, q 133, q 134, q 135, q 136, q 137, q 138, q 139, q 140, q 141, q 142, q 143, q 144, q 145, q 146, q 147, q 148, q 149, q 150, q 151, q 152, q 153, q 154, q 155, q 156, q 157, q 158, q 159, q 160, q 161, q 162, q 163, q 164, q 165, q 166, q 167, q 168, q 169, q 170, q 171, q 172, q 173, q 174, q 175, q 176, q 177, q 178, q 179, q 180, q 181, q 182, q 183, q 184, q 185, q 186, q 187, q 188, q 189, q 190, q 191, q 192, q 193, q 194, q 195, q 196, q 197, q 198, q 199, q 200, q 201, q 202, q 203, q 204, q 205, q 206, q 207, q 208, q 209, q 210, q 211, q 212, q 213, q 214, q 215, q 216, q 217, q 218, q 219, q 220, q 221, q 222, q 223, q 224, q 225, q 226, q 227, q 228, q 229, q 230, q 231, q 232, q 233, q 234, q 235, q 236, q 237, q 238, q 239, q 240, q 241, q 242, q 243, q 244, q 245, q 246, q 247, q 248, q 249, q 250, q 251, q 252, q 253, q 254, q 255]) 0), #[]⟩
noncomputable def qSgt2x50 (P : Params) : Obj := ⟨(.type "bytes_iterator"), none, (.fields #[(.bytes #[32, 33, 34, 35, 36, 37, 38, 39, 40, 41, 42, 43, 44, 45, 46, 47, 48, 49, 50, 51, 52, 53, 54, 55, 56, 57, 58, 59, 60, 62, 63, 64, 65, 66, 67, 68, 69, 70, 71, 72, 73, 74, 75, 76, 77, 78, 79, 80, 81, 82, 83, 84, 85, 86, 87, 88, 89, 90, 91, 92, 93, 94, 95, 96, 97, 98, 99, 100, 101, 102, 103, 104, 105, 106, 107, 108, 109, 110, 111, 112, 113, 114, 115, 116, 117, 118, 119, 120, 121, 122, 123, 124, 125, 126, 9] 1568), (.int (66) 0)]), #[]⟩
noncomputable def Sgt2 (P : Params) (os : OsState) : SharedT := ⟨(.node (qSax0 P) (.node (qSax1 P) (.node (qSgt2x3 P) (.node (qSax7 P) (.node (qSax15 P) (.node (qSbx31 P) .nil .nil) (.node (qSgx47 P) .nil .nil)) (.node (qSax23 P) (.node (qSex39 P) .nil .nil) .nil)) (.node (qSax11 P) (.node (qSax19 P) (.node (qScx35 P) .nil .nil) .nil) (.node (qSax27 P) (.node (qSex43 P) .nil .nil) .nil))) (.node (qSax5 P) (.node (qSax9 P) (.node (qSax17 P) (.node (qScx33 P) .nil .nil) (.node (qSgx49 P) .nil .nil)) (.node (qSax25 P) (.node (qSdx41 P) .nil .nil) .nil)) (.node (qSax13 P) (.node (qSax21 P) (.node (qSex37 P) .nil .nil) .nil) (.node (qSbx29 P) (.node (qSex45 P) .nil .nil) .nil)))) (.node (qSax2 P) (.node (qSax4 P) (.node (qSax8 P) (.node (qSax16 P) (.node (qScx32 P) .nil .nil) (.node (qSfx48 P) .nil .nil)) (.node (qSax24 P) (.node (qSex40 P) .nil .nil) .nil)) (.node (qSax12 P) (.node (qSax20 P) (.node (qScx36 P) .nil .nil) .nil) (.node (qSbx28 P) (.node (qSgx44 P) .nil .nil) .nil))) (.node (qSax6 P) (.node (qSax10 P) (.node (qSax18 P) (.node (qScx34 P) .nil .nil) (.node (qSgt2x50 P) .nil .nil)) (.node (qSax26 P) (.node (qSex42 P) .nil .nil) .nil)) (.node (qSax14 P) (.node (qSax22 P) (.node (qSex38 P) .nil .nil) .nil) (.node (qSbx30 P) (.node (qSgt2x46 P) .nil .nil) .nil))))), 51, lf, #[], {}, 1767, os⟩
noncomputable def qShx3 (P : Params) : Obj := ⟨(.type "dict"), none, (.dict #[⟨PyData.keyHash P (Str.ofString "__name__"), (.str (Str.ofString "__name__") 165), (.str (Str.ofString "cpy313.email.quoprimime") 1355)⟩,
  ⟨PyData.keyHash P (Str.ofString "__doc__"), (.str (Str.ofString "__doc__") 166), .none⟩,
  ⟨PyData.keyHash P (Str.ofString "__package__"), (.str (Str.ofString "__package__") 167), .none⟩,
  ⟨PyData.keyHash P (Str.ofString "__loader__"), (.str (Str.ofString "__loader__") 168), (.builtin "__main__.__loader__#opaque")⟩,
  ⟨PyData.keyHash P (Str.ofString "__spec__"), (.str (Str.ofString "__spec__") 169), .none⟩,
  ⟨PyData.keyHash P (Str.ofString "__annotations__"), (.str (Str.ofString "__annotations__") 170), (.ref 6)⟩,
  ⟨PyData.keyHash P (Str.ofString "__builtins__"), (.str (Str.ofString "__builtins__") 171), (.ref 4)⟩,
  ⟨PyData.keyHash P (Str.ofString "__file__"), (.str (Str.ofString "__file__") 173), (.str (Str.ofString "/claim/cut.py") 172)⟩,
  ⟨PyData.keyHash P (Str.ofString "__cached__"), (.str (Str.ofString "__cached__") 174), .none⟩,
  ⟨PyData.keyHash P (Str.ofString "_sre"), (.str (Str.ofString "_sre") 275), (.ref 12)⟩,
  ⟨PyData.keyHash P (Str.ofString "_twin_re_1"), (.str (Str.ofString "_twin_re_1") 316), (.ref 36)⟩,
  ⟨PyData.keyHash P (Str.ofString "_QUOPRI_MAP"), (.str (Str.ofString "_QUOPRI_MAP") 1344), (.ref 39)⟩,
  ⟨PyData.keyHash P (Str.ofString "_QUOPRI_HEADER_MAP"), (.str (Str.ofString "_QUOPRI_HEADER_MAP") 1345), (.ref 44)⟩,
  ⟨PyData.keyHash P (Str.ofString "_QUOPRI_BODY_MAP"), (.str (Str.ofString "_QUOPRI_BODY_MAP") 1346), (.ref 46)⟩,
  ⟨PyData.keyHash P (Str.ofString "ascii_lowercase"), (.str (Str.ofString "ascii_lowercase") 1348), (.str (Str.ofString "abcdefghijklmnopqrstuvwxyz") 1347)⟩,
  ⟨PyData.keyHash P (Str.ofString "ascii_uppercase"), (.str (Str.ofString "ascii_uppercase") 1350), (.str (Str.ofString "ABCDEFGHIJKLMNOPQRSTUVWXYZ") 1349)⟩,
  ⟨PyData.keyHash P (Str.ofString "ascii_letters"), (.str (Str.ofString "ascii_letters") 1352), (.str (Str.ofString "abcdefghijklmnopqrstuvwxyzABCDEFGHIJKLMNOPQRSTUVWXYZ") 1351)⟩,
  ⟨PyData.keyHash P (Str.ofString "digits"), (.str (Str.ofString "digits") 1354), (.str (Str.ofString "0123456789") 1353)⟩,
  ⟨PyData.keyHash P (Str.ofString "c"), (.str (Str.ofString "c") 1365), (.int (9) 1851)⟩] 19), #[]⟩
noncomputable def qShx46 (P : Params) : Obj := ⟨(.type "list"), none, (.seq (List.toArray [q 0, q 1, q 2, q 3, q 4, q 5, q 6, q 7, q 8, q1 9 1853, q 10, q 11, q 12, q 13, q 14, q 15, q 16, q 17, q 18, q 19, q 20, q 21, q 22, q 23, q 24, q 25, q 26, q 27, q 28, q 29, q 30, q 31, q1 32 1571, q1 33 1574, q1 34 1577, q1 35 1580, q1 36 1583, q1 37 1586, q1 38 1589, q1 39 1592, q1 40 1595, q1 41 1598, q1 42 1601, q1 43 1604, q1 44 1607, q1 45 1610, q1 46 1613, q1 47 1616, q1 48 1619, q1 49 1622, q1 50 1625, q1 51 1628, q1 52 1631, q1 53 1634, q1 54 1637, q1 55 1640, q1 56 1643, q1 57 1646, q1 58 1649, q1 59 1652, q1 60 1655, q 61, q1 62 1658, q1 63 1661, q1 64 1664, q1 65 1667, q1 66 1670, q1 67 1673, q1 68 1676, q1 69 1679, q1 70 1682, q1 71 1685, q1 72 1688, q1 73 1691, q1 74 1694, q1 75 1697, q1 76 1700, q1 77 1703, q1 78 1706, q1 79 1709, q1 80 1712, q1 81 1715, q1 82 1718, q1 83 1721, q1 84 1724, q1 85 1727, q1 86 1730, q1 87 1733, q1 88 1736, q1 89 1739, q1 90 1742, q1 91 1745, q1 92 1748, q1 93 1751, q1 94 1754, q1 95 1757, q1 96 1760, q1 97 1763, q1 98 1766, q1 99 1769, q1 100 1772, q1 101 1775, q1 102 1778, q1 103 1781, q1 104 1784, q1 105 1787, q1 106 1790, q1 107 1793, q1 108 1796, q1 109 1799, q1 110 1802, q1 111 1805, q1 112 1808, q1 113 1811, q1 114 1814, q1 115 1817, q1 116 1820, q1 117 1823, q1 118 1826, q1 119 1829, q1 120 1832, q1 121 1835, q1 122 1838, q1 123 1841, q1 124 1844, q1 125 1847, q1 126 1850, q 127, q 128, q 129, q 130, q 131, q 132, q 133, q 134, q 135, q 136, q 137, q 138, q 139, q 140, q 141, q 142, q 143, q 144, q 145, q 146, q 147, q 148, q 149, q 150, q 151, q 152, q 153, q 154, q 155, q 156, q 157, q 158, q 159, q 160, q 161, q 162, q 163, q 164, q 165, q 166, q 167, q 168, q 169, q 170, q 171, q 172, q 173, q 174, q 175, q 176, q 177, q 178, q 179, q 180, q 181, q 182, q 183, q 184, q 185, q 186, q 187, q 188, q 189, q 190, q 191, q 192, q 193, q 194, q 195, q 196, q 197, q 198, q 199, q 200, q 201, q 202, q 203, q 204, q 205, q 206, q 207, q 208, q 209, q 210, q 211, q 212, q 213, q 214, q 215, q 216, q 217, q 218, q 219, q 220, q 221, q 222, q 223, q 224, q 225, q 226, q 227, q 228, q 229, q 230, q 231, q 232, q 233, q 234, q 235, q 236, q 237, q 238, q 239, q 240, q 241, q 242, q 243, q 244, q 245, q 246, q 247, q 248, q 249, q 250, q 251, q 252, q 253, q 254, q 255]) 0), #[]⟩
noncomputable def qShx50 (P : Params) : Obj := ⟨(.type "bytes_iterator"), none, (.fields #[.none, (.int (95) 0)]), #[]⟩
noncomputable def qShx51 (P : Params) : Obj := ⟨(.type "tuple"), none, (.seq #[] 0), #[]⟩
noncomputable def qShx52 (P : Params) : Obj := ⟨(.type "StopIteration"), none, (.fields #[(.ref 51), .none, .none, .none, (.bool false), .none]), #[]⟩
noncomputable def Sh (P : Params) (os : OsState) : SharedT := ⟨(.node (qSax0 P) (.node (qSax1 P) (.node (qShx3 P) (.node (qSax7 P) (.node (qSax15 P) (.node (qSbx31 P) .nil .nil) (.node (qSgx47 P) .nil .nil)) (.node (qSax23 P) (.node (qSex39 P) .nil .nil) .nil)) (.node (qSax11 P) (.node (qSax19 P) (.node (qScx35 P) .nil .nil) (.node (qShx51 P) .nil .nil)) (.node (qSax27 P) (.node (qSex43 P) .nil .nil) .nil))) (.node (qSax5 P) (.node (qSax9 P) (.node (qSax17 P) (.node (qScx33 P) .nil .nil) (.node (qSgx49 P) .nil .nil)) (.node (qSax25 P) (.node (qSdx41 P) .nil .nil) .nil)) (.node (qSax13 P) (.node (qSax21 P) (.node (qSex37 P) .nil .nil) .nil) (.node (qSbx29 P) (.node (qSex45 P) .nil .nil) .nil)))) (.node (qSax2 P) (.node (qSax4 P) (.node (qSax8 P) (.node (qSax16 P) (.node (qScx32 P) .nil .nil) (.node (qSfx48 P) .nil .nil)) (.node (qSax24 P) (.node (qSex40 P) .nil .nil) .nil)) (.node (qSax12 P) (.node (qSax20 P) (.node (qScx36 P) .nil .nil) (.node (qShx52 P) .nil .nil)) (.node (qSbx28 P) (.node (qSgx44 P) .nil .nil) .nil))) (.node (qSax6 P) (.node (qSax10 P) (.node (qSax18 P) (.node (qScx34 P) .nil .nil) (.node (qShx50 P) .nil .nil)) (.node (qSax26 P) (.node (qSex42 P) .nil .nil) .nil)) (.node (qSax14 P) (.node (qSax22 P) (.node (qSex38 P) .nil .nil) .nil) (.node (qSbx30 P) (.node (qShx46 P) .nil .nil) .nil))))), 53, lf, #[], {}, 1854, os⟩
end Mine
end

section
open PySem PySem.W PyProof.Rows PySem.Calls
set_option Elab.async false
set_option maxRecDepth 100000
namespace Mine
/-- the first steps of the top, over the tree form -/
def goT (p : Program) (w : World) (n₀ : Nat) (ann : Option Value) : Nat → SharedT → Thread → Option (SharedT × Thread)
  | 0, s, t => some (s, t)
  | n + 1, s, t => match through t with
    | true => none
    | false => match stepOk n₀ ann t with
      | false => none
      | true => match stepT (denote treeTable) p w s t with
        | some (s', t') => goT p w n₀ ann n s' t'
        | none => none
theorem goT_spec {p : Program} {w : World} {n₀ : Nat} {ann : Option Value} : ∀ {n : Nat} {s s' : SharedT} {t t' : Thread}, goT p w n₀ ann n s t = some (s', t') → topGo treeTable p w n₀ ann n s.abs t = some (s'.abs, t')
  | 0, s, s', t, t', h => by
    obtain ⟨rfl, rfl⟩ : s = s' ∧ t = t' := by simpa [goT] using h
    rfl
  | n + 1, s, s', t, t', h => by
    unfold goT at h
    unfold topGo
    cases he : through t with
    | true => rw [he] at h; cases h
    | false =>
      rw [he] at h
      cases hk : stepOk n₀ ann t with
      | false => rw [hk] at h; cases h
      | true =>
        rw [hk] at h
        cases hs : stepT (denote treeTable) p w s t with
        | none => rw [hs] at h; cases h
        | some r => obtain ⟨s₂, t₂⟩ := r; rw [hs] at h; dsimp only; rw [stepT_spec hs]; exact goT_spec h

def qv : Program := view pw [24]
def looseL : List Str := [Str.ofString "_sre", Str.ofString "_twin_re_1", Str.ofString "_QUOPRI_MAP", Str.ofString "_QUOPRI_HEADER_MAP", Str.ofString "_QUOPRI_BODY_MAP", Str.ofString "ascii_lowercase", Str.ofString "ascii_uppercase",
  Str.ofString "ascii_letters", Str.ofString "digits", Str.ofString "header_check", Str.ofString "unquote", Str.ofString "header_encode", Str.ofString "_QUOPRI_BODY_ENCODE_MAP", Str.ofString "_unquote_match", Str.ofString "header_decode",
  Str.ofString "_law_octet", Str.ofString "_law_fewest"]

def bodyAll : List Stmt := behindTheImports pw
def bodyPart (a n : Nat) : List Stmt := (bodyAll.drop a).take n
def envTop : Env := { scope := pw.main.scope, locals := mainNs, globals := mainNs, cells := [], code := .ref 30, frame := some 31 }
def cdTop : Code := .body bodyAll envTop
def ps (a b c d : Nat) : Pos := ⟨a, b, c, d⟩
def annTop : Option Value := some (.ref 6)

/-- the opening and what is left behind it -/
def openLook (w : World) : Option (Heap × Array GenState × Drawn × Nat) :=
  match asT? (start (opening pw)).1 with
  | none => none
  | some S0 => match impT (opening pw) w 20000 S0 (start (opening pw)).2 with
    | none => none
    | some S1 => match fenceModules? pw S1.abs with
      | none => none
      | some s0 => some (s0.heap, s0.gens, s0.drawn, s0.toks)
theorem openLook_spec {w : World} {x : Heap × Array GenState × Drawn × Nat} (h : openLook w = some x) : (fencedOpening treeTable pw w 20000).map (fun s => (s.heap, s.gens, s.drawn, s.toks)) = some x := by
  unfold openLook at h
  unfold fencedOpening
  cases h0 : asT? (start (opening pw)).1 with
  | none => rw [h0] at h; cases h
  | some S0 =>
    rw [h0] at h
    dsimp only at h
    cases h1 : impT (opening pw) w 20000 S0 (start (opening pw)).2 with
    | none => rw [h1] at h; cases h
    | some S1 =>
      rw [h1] at h
      dsimp only at h
      have e1 := impT_spec h1
      rw [asT_spec h0] at e1
      rw [e1]
      show (fenceModules? pw S1.abs).map _ = some x
      cases h2 : fenceModules? pw S1.abs with
      | none => rw [h2] at h; cases h
      | some s0 => rw [h2] at h; exact h
noncomputable def openWant (w : World) : Heap × Array GenState × Drawn × Nat := (absHeap (Sa w.params {}).tree 28 lf, #[], {}, 276)

def preLook (w : World) (S : SharedT) : Option (SharedT × Thread) := goT pw w 28 annTop 12 S (topStub pw)
def preThread : Thread := ⟨denote treeTable cdTop, cdTop, ps 0 0 0 0, [topFrame (ps 0 0 0 0)]⟩
def blockRun (w : World) (S : SharedT) := segRunT treeTable pw w 28 annTop 1 1 S (blockOf bodyAll envTop cdTop (ps 0 0 0 0) [topFrame (ps 0 0 0 0)])
/-- a part of the body, from its begin to its end -/
def partRun (w : World) (a n : Nat) (pos : Pos) (k : Nat) (S : SharedT) := segRunT treeTable pw w 28 annTop 1 k S (piecesOf (bodyPart a n) envTop cdTop pos [topFrame (ps 0 0 0 0)])
/-- the first steps of a part of the body -/
def partGo (w : World) (a n : Nat) (pos : Pos) (k : Nat) (S : SharedT) := segGoT treeTable pw w 28 annTop 1 k S (piecesOf (bodyPart a n) envTop cdTop pos [topFrame (ps 0 0 0 0)])
noncomputable def partThread (w : World) (a n : Nat) (pos : Pos) (k : Nat) (S : SharedT) : Thread := match partGo w a n pos k S with
  | some (_, t) => t
  | none => preThread
def turnGo (w : World) (k : Nat) (S : SharedT) (t : Thread) := segGoT treeTable pw w 28 annTop 1 k S t
def turnRun (w : World) (k : Nat) (S : SharedT) (t : Thread) := segRunT treeTable pw w 28 annTop 1 k S t
def partEnd (S : SharedT) (pos : Pos) : Option (Flow × SharedT × Code × Pos) := some (.next, S, cdTop, pos)
/-- the rest of the body to its end, and what is read there -/
def endLook (w : World) (a : Nat) (pos : Pos) (N : Nat) (S0 S : SharedT) := match topT pw w 28 annTop N S (restOf (bodyAll.drop a) envTop cdTop pos [topFrame (ps 0 0 0 0)]) with
  | none => none
  | some S3 => match staticsOk (importedModules pw.main.body) S0.abs.heap S3.abs.heap && namesBound pw S3.abs.heap && gensDone S3.abs && laidKept S0.abs.heap S3.abs.heap with
    | true => some (openSeen qv looseL (importedModules pw.main.body) (fun _ => true) true S3.abs, seenOf S3.abs)
    | false => none
def evGood := (openGood qv looseL, seenGood)
lay_quick Mine.openLook
lay_quick Mine.preLook
lay_quick Mine.preThread
lay_quick Mine.blockRun
lay_quick Mine.partRun
lay_quick Mine.partGo
lay_quick Mine.partThread
lay_quick Mine.turnGo
lay_quick Mine.turnRun
lay_quick Mine.partEnd
lay_quick Mine.endLook
lay_quick Mine.evGood
end Mine
end

section
open PySem PySem.W PyProof.Rows PySem.Calls
set_option Elab.async false
set_option maxRecDepth 100000
namespace Mine
theorem k_open (w : World) : PySem.W.Fast.tw14421616979272910865 w = some (openWant w) := by kernel_rfl
theorem k_pre (w : World) (os : OsState) : PySem.W.Fast.tw11860812695316227881 w (Sa w.params os) = some ((Sb w.params os), PySem.W.Fast.tw7612776768304943245) := by kernel_rfl
theorem k_block (w : World) (os : OsState) : PySem.W.Fast.tw11092726090914983303 w (Sb w.params os) = PySem.W.Fast.tw735801785457834853 (Sb w.params os) (ps 0 0 0 0) := by kernel_rfl
theorem k_p0 (w : World) (os : OsState) : PySem.W.Fast.tw13203728891410042911 w 0 1 (ps 0 0 0 0) 79 (Sb w.params os) = PySem.W.Fast.tw735801785457834853 (Sc w.params os) (ps 2 0 2 10) := by kernel_rfl
theorem k_c0ff (w : World) (os : OsState) : PySem.W.Fast.tw1672150450837929671 ((w.withFollow "special-get-raises" false).withFollow "comprehension-iter-twice" false) 1 1 (ps 2 0 2 10) 88 (Sc ((w.withFollow "special-get-raises" false).withFollow "comprehension-iter-twice" false).params os) = some (Sct0 ((w.withFollow "special-get-raises" false).withFollow "comprehension-iter-twice" false).params os, (PySem.W.Fast.tw3402775650955021840 (((w.withFollow "special-get-raises" false).withFollow "comprehension-iter-twice" false).withFollow "comprehension-iter-twice" true) 1 1 (ps 2 0 2 10) 78 (Sc (((w.withFollow "special-get-raises" false).withFollow "comprehension-iter-twice" false).withFollow "comprehension-iter-twice" true).params os))) := by kernel_rfl
theorem k_c0ft (w : World) (os : OsState) : PySem.W.Fast.tw1672150450837929671 ((w.withFollow "special-get-raises" true).withFollow "comprehension-iter-twice" false) 1 1 (ps 2 0 2 10) 88 (Sc ((w.withFollow "special-get-raises" true).withFollow "comprehension-iter-twice" false).params os) = some (Sct0 ((w.withFollow "special-get-raises" true).withFollow "comprehension-iter-twice" false).params os, (PySem.W.Fast.tw3402775650955021840 (((w.withFollow "special-get-raises" true).withFollow "comprehension-iter-twice" false).withFollow "comprehension-iter-twice" true) 1 1 (ps 2 0 2 10) 78 (Sc (((w.withFollow "special-get-raises" true).withFollow "comprehension-iter-twice" false).withFollow "comprehension-iter-twice" true).params os))) := by kernel_rfl
theorem k_c0tf (w : World) (os : OsState) : PySem.W.Fast.tw1672150450837929671 ((w.withFollow "special-get-raises" false).withFollow "comprehension-iter-twice" true) 1 1 (ps 2 0 2 10) 78 (Sc ((w.withFollow "special-get-raises" false).withFollow "comprehension-iter-twice" true).params os) = some (Sct0 ((w.withFollow "special-get-raises" false).withFollow "comprehension-iter-twice" true).params os, (PySem.W.Fast.tw3402775650955021840 (((w.withFollow "special-get-raises" false).withFollow "comprehension-iter-twice" true).withFollow "comprehension-iter-twice" true) 1 1 (ps 2 0 2 10) 78 (Sc (((w.withFollow "special-get-raises" false).withFollow "comprehension-iter-twice" true).withFollow "comprehension-iter-twice" true).params os))) := by kernel_rfl
theorem k_c0tt (w : World) (os : OsState) : PySem.W.Fast.tw1672150450837929671 ((w.withFollow "special-get-raises" true).withFollow "comprehension-iter-twice" true) 1 1 (ps 2 0 2 10) 78 (Sc ((w.withFollow "special-get-raises" true).withFollow "comprehension-iter-twice" true).params os) = some (Sct0 ((w.withFollow "special-get-raises" true).withFollow "comprehension-iter-twice" true).params os, (PySem.W.Fast.tw3402775650955021840 (((w.withFollow "special-get-raises" true).withFollow "comprehension-iter-twice" true).withFollow "comprehension-iter-twice" true) 1 1 (ps 2 0 2 10) 78 (Sc (((w.withFollow "special-get-raises" true).withFollow "comprehension-iter-twice" true).withFollow "comprehension-iter-twice" true).params os))) := by kernel_rfl
theorem k_c1f (w : World) (os : OsState) : PySem.W.Fast.tw15408578829183395756 (w.withFollow "special-get-raises" false) 1184 (Sct0 (w.withFollow "special-get-raises" false).params os) (PySem.W.Fast.tw3402775650955021840 ((w.withFollow "special-get-raises" false).withFollow "comprehension-iter-twice" true) 1 1 (ps 2 0 2 10) 78 (Sc ((w.withFollow "special-get-raises" false).withFollow "comprehension-iter-twice" true).params os)) = some ((Sct1 (w.withFollow "special-get-raises" false).params os), (PySem.W.Fast.tw3402775650955021840 ((w.withFollow "special-get-raises" false).withFollow "comprehension-iter-twice" true) 1 1 (ps 2 0 2 10) 78 (Sc ((w.withFollow "special-get-raises" false).withFollow "comprehension-iter-twice" true).params os))) := by kernel_rfl
theorem k_c1t (w : World) (os : OsState) : PySem.W.Fast.tw15408578829183395756 (w.withFollow "special-get-raises" true) 1184 (Sct0 (w.withFollow "special-get-raises" true).params os) (PySem.W.Fast.tw3402775650955021840 ((w.withFollow "special-get-raises" true).withFollow "comprehension-iter-twice" true) 1 1 (ps 2 0 2 10) 78 (Sc ((w.withFollow "special-get-raises" true).withFollow "comprehension-iter-twice" true).params os)) = some ((Sct1 (w.withFollow "special-get-raises" true).params os), (PySem.W.Fast.tw3402775650955021840 ((w.withFollow "special-get-raises" true).withFollow "comprehension-iter-twice" true) 1 1 (ps 2 0 2 10) 78 (Sc ((w.withFollow "special-get-raises" true).withFollow "comprehension-iter-twice" true).params os))) := by kernel_rfl
theorem k_c2f (w : World) (os : OsState) : PySem.W.Fast.tw15408578829183395756 (w.withFollow "special-get-raises" false) 1184 (Sct1 (w.withFollow "special-get-raises" false).params os) (PySem.W.Fast.tw3402775650955021840 ((w.withFollow "special-get-raises" false).withFollow "comprehension-iter-twice" true) 1 1 (ps 2 0 2 10) 78 (Sc ((w.withFollow "special-get-raises" false).withFollow "comprehension-iter-twice" true).params os)) = some ((Sct2 (w.withFollow "special-get-raises" false).params os), (PySem.W.Fast.tw3402775650955021840 ((w.withFollow "special-get-raises" false).withFollow "comprehension-iter-twice" true) 1 1 (ps 2 0 2 10) 78 (Sc ((w.withFollow "special-get-raises" false).withFollow "comprehension-iter-twice" true).params os))) := by kernel_rfl
theorem k_c2t (w : World) (os : OsState) : PySem.W.Fast.tw15408578829183395756 (w.withFollow "special-get-raises" true) 1184 (Sct1 (w.withFollow "special-get-raises" true).params os) (PySem.W.Fast.tw3402775650955021840 ((w.withFollow "special-get-raises" true).withFollow "comprehension-iter-twice" true) 1 1 (ps 2 0 2 10) 78 (Sc ((w.withFollow "special-get-raises" true).withFollow "comprehension-iter-twice" true).params os)) = some ((Sct2 (w.withFollow "special-get-raises" true).params os), (PySem.W.Fast.tw3402775650955021840 ((w.withFollow "special-get-raises" true).withFollow "comprehension-iter-twice" true) 1 1 (ps 2 0 2 10) 78 (Sc ((w.withFollow "special-get-raises" true).withFollow "comprehension-iter-twice" true).params os))) := by kernel_rfl
theorem k_c3f (w : World) (os : OsState) : PySem.W.Fast.tw15408578829183395756 (w.withFollow "special-get-raises" false) 1184 (Sct2 (w.withFollow "special-get-raises" false).params os) (PySem.W.Fast.tw3402775650955021840 ((w.withFollow "special-get-raises" false).withFollow "comprehension-iter-twice" true) 1 1 (ps 2 0 2 10) 78 (Sc ((w.withFollow "special-get-raises" false).withFollow "comprehension-iter-twice" true).params os)) = some ((Sct3 (w.withFollow "special-get-raises" false).params os), (PySem.W.Fast.tw3402775650955021840 ((w.withFollow "special-get-raises" false).withFollow "comprehension-iter-twice" true) 1 1 (ps 2 0 2 10) 78 (Sc ((w.withFollow "special-get-raises" false).withFollow "comprehension-iter-twice" true).params os))) := by kernel_rfl
theorem k_c3t (w : World) (os : OsState) : PySem.W.Fast.tw15408578829183395756 (w.withFollow "special-get-raises" true) 1184 (Sct2 (w.withFollow "special-get-raises" true).params os) (PySem.W.Fast.tw3402775650955021840 ((w.withFollow "special-get-raises" true).withFollow "comprehension-iter-twice" true) 1 1 (ps 2 0 2 10) 78 (Sc ((w.withFollow "special-get-raises" true).withFollow "comprehension-iter-twice" true).params os)) = some ((Sct3 (w.withFollow "special-get-raises" true).params os), (PySem.W.Fast.tw3402775650955021840 ((w.withFollow "special-get-raises" true).withFollow "comprehension-iter-twice" true) 1 1 (ps 2 0 2 10) 78 (Sc ((w.withFollow "special-get-raises" true).withFollow "comprehension-iter-twice" true).params os))) := by kernel_rfl
theorem k_c4f (w : World) (os : OsState) : PySem.W.Fast.tw15408578829183395756 (w.withFollow "special-get-raises" false) 1184 (Sct3 (w.withFollow "special-get-raises" false).params os) (PySem.W.Fast.tw3402775650955021840 ((w.withFollow "special-get-raises" false).withFollow "comprehension-iter-twice" true) 1 1 (ps 2 0 2 10) 78 (Sc ((w.withFollow "special-get-raises" false).withFollow "comprehension-iter-twice" true).params os)) = some ((Sct4 (w.withFollow "special-get-raises" false).params os), (PySem.W.Fast.tw3402775650955021840 ((w.withFollow "special-get-raises" false).withFollow "comprehension-iter-twice" true) 1 1 (ps 2 0 2 10) 78 (Sc ((w.withFollow "special-get-raises" false).withFollow "comprehension-iter-twice" true).params os))) := by kernel_rfl
theorem k_c4t (w : World) (os : OsState) : PySem.W.Fast.tw15408578829183395756 (w.withFollow "special-get-raises" true) 1184 (Sct3 (w.withFollow "special-get-raises" true).params os) (PySem.W.Fast.tw3402775650955021840 ((w.withFollow "special-get-raises" true).withFollow "comprehension-iter-twice" true) 1 1 (ps 2 0 2 10) 78 (Sc ((w.withFollow "special-get-raises" true).withFollow "comprehension-iter-twice" true).params os)) = some ((Sct4 (w.withFollow "special-get-raises" true).params os), (PySem.W.Fast.tw3402775650955021840 ((w.withFollow "special-get-raises" true).withFollow "comprehension-iter-twice" true) 1 1 (ps 2 0 2 10) 78 (Sc ((w.withFollow "special-get-raises" true).withFollow "comprehension-iter-twice" true).params os))) := by kernel_rfl
theorem k_c5f (w : World) (os : OsState) : PySem.W.Fast.tw15408578829183395756 (w.withFollow "special-get-raises" false) 1184 (Sct4 (w.withFollow "special-get-raises" false).params os) (PySem.W.Fast.tw3402775650955021840 ((w.withFollow "special-get-raises" false).withFollow "comprehension-iter-twice" true) 1 1 (ps 2 0 2 10) 78 (Sc ((w.withFollow "special-get-raises" false).withFollow "comprehension-iter-twice" true).params os)) = some ((Sct5 (w.withFollow "special-get-raises" false).params os), (PySem.W.Fast.tw3402775650955021840 ((w.withFollow "special-get-raises" false).withFollow "comprehension-iter-twice" true) 1 1 (ps 2 0 2 10) 78 (Sc ((w.withFollow "special-get-raises" false).withFollow "comprehension-iter-twice" true).params os))) := by kernel_rfl
theorem k_c5t (w : World) (os : OsState) : PySem.W.Fast.tw15408578829183395756 (w.withFollow "special-get-raises" true) 1184 (Sct4 (w.withFollow "special-get-raises" true).params os) (PySem.W.Fast.tw3402775650955021840 ((w.withFollow "special-get-raises" true).withFollow "comprehension-iter-twice" true) 1 1 (ps 2 0 2 10) 78 (Sc ((w.withFollow "special-get-raises" true).withFollow "comprehension-iter-twice" true).params os)) = some ((Sct5 (w.withFollow "special-get-raises" true).params os), (PySem.W.Fast.tw3402775650955021840 ((w.withFollow "special-get-raises" true).withFollow "comprehension-iter-twice" true) 1 1 (ps 2 0 2 10) 78 (Sc ((w.withFollow "special-get-raises" true).withFollow "comprehension-iter-twice" true).params os))) := by kernel_rfl
theorem k_c6f (w : World) (os : OsState) : PySem.W.Fast.tw15408578829183395756 (w.withFollow "special-get-raises" false) 1184 (Sct5 (w.withFollow "special-get-raises" false).params os) (PySem.W.Fast.tw3402775650955021840 ((w.withFollow "special-get-raises" false).withFollow "comprehension-iter-twice" true) 1 1 (ps 2 0 2 10) 78 (Sc ((w.withFollow "special-get-raises" false).withFollow "comprehension-iter-twice" true).params os)) = some ((Sct6 (w.withFollow "special-get-raises" false).params os), (PySem.W.Fast.tw3402775650955021840 ((w.withFollow "special-get-raises" false).withFollow "comprehension-iter-twice" true) 1 1 (ps 2 0 2 10) 78 (Sc ((w.withFollow "special-get-raises" false).withFollow "comprehension-iter-twice" true).params os))) := by kernel_rfl
theorem k_c6t (w : World) (os : OsState) : PySem.W.Fast.tw15408578829183395756 (w.withFollow "special-get-raises" true) 1184 (Sct5 (w.withFollow "special-get-raises" true).params os) (PySem.W.Fast.tw3402775650955021840 ((w.withFollow "special-get-raises" true).withFollow "comprehension-iter-twice" true) 1 1 (ps 2 0 2 10) 78 (Sc ((w.withFollow "special-get-raises" true).withFollow "comprehension-iter-twice" true).params os)) = some ((Sct6 (w.withFollow "special-get-raises" true).params os), (PySem.W.Fast.tw3402775650955021840 ((w.withFollow "special-get-raises" true).withFollow "comprehension-iter-twice" true) 1 1 (ps 2 0 2 10) 78 (Sc ((w.withFollow "special-get-raises" true).withFollow "comprehension-iter-twice" true).params os))) := by kernel_rfl
theorem k_c7f (w : World) (os : OsState) : PySem.W.Fast.tw15408578829183395756 (w.withFollow "special-get-raises" false) 1184 (Sct6 (w.withFollow "special-get-raises" false).params os) (PySem.W.Fast.tw3402775650955021840 ((w.withFollow "special-get-raises" false).withFollow "comprehension-iter-twice" true) 1 1 (ps 2 0 2 10) 78 (Sc ((w.withFollow "special-get-raises" false).withFollow "comprehension-iter-twice" true).params os)) = some ((Sct7 (w.withFollow "special-get-raises" false).params os), (PySem.W.Fast.tw3402775650955021840 ((w.withFollow "special-get-raises" false).withFollow "comprehension-iter-twice" true) 1 1 (ps 2 0 2 10) 78 (Sc ((w.withFollow "special-get-raises" false).withFollow "comprehension-iter-twice" true).params os))) := by kernel_rfl
theorem k_c7t (w : World) (os : OsState) : PySem.W.Fast.tw15408578829183395756 (w.withFollow "special-get-raises" true) 1184 (Sct6 (w.withFollow "special-get-raises" true).params os) (PySem.W.Fast.tw3402775650955021840 ((w.withFollow "special-get-raises" true).withFollow "comprehension-iter-twice" true) 1 1 (ps 2 0 2 10) 78 (Sc ((w.withFollow "special-get-raises" true).withFollow "comprehension-iter-twice" true).params os)) = some ((Sct7 (w.withFollow "special-get-raises" true).params os), (PySem.W.Fast.tw3402775650955021840 ((w.withFollow "special-get-raises" true).withFollow "comprehension-iter-twice" true) 1 1 (ps 2 0 2 10) 78 (Sc ((w.withFollow "special-get-raises" true).withFollow "comprehension-iter-twice" true).params os))) := by kernel_rfl
theorem k_c8f (w : World) (os : OsState) : PySem.W.Fast.tw16049014801019168045 (w.withFollow "special-get-raises" false) 1176 (Sct7 (w.withFollow "special-get-raises" false).params os) (PySem.W.Fast.tw3402775650955021840 ((w.withFollow "special-get-raises" false).withFollow "comprehension-iter-twice" true) 1 1 (ps 2 0 2 10) 78 (Sc ((w.withFollow "special-get-raises" false).withFollow "comprehension-iter-twice" true).params os)) = PySem.W.Fast.tw735801785457834853 (Sd (w.withFollow "special-get-raises" false).params os) (ps 3 0 3 11) := by kernel_rfl
theorem k_c8t (w : World) (os : OsState) : PySem.W.Fast.tw16049014801019168045 (w.withFollow "special-get-raises" true) 1176 (Sct7 (w.withFollow "special-get-raises" true).params os) (PySem.W.Fast.tw3402775650955021840 ((w.withFollow "special-get-raises" true).withFollow "comprehension-iter-twice" true) 1 1 (ps 2 0 2 10) 78 (Sc ((w.withFollow "special-get-raises" true).withFollow "comprehension-iter-twice" true).params os)) = PySem.W.Fast.tw735801785457834853 (Sd (w.withFollow "special-get-raises" true).params os) (ps 3 0 3 11) := by kernel_rfl
theorem k_d (w : World) (os : OsState) : PySem.W.Fast.tw13203728891410042911 w 2 7 (ps 3 0 3 11) 109 (Sd w.params os) = PySem.W.Fast.tw735801785457834853 (Se w.params os) (ps 10 0 10 8) := by kernel_rfl
theorem k_e0f (w : World) (os : OsState) : PySem.W.Fast.tw1672150450837929671 (w.withFollow "special-get-raises" false) 9 1 (ps 10 0 10 8) 133 (Se (w.withFollow "special-get-raises" false).params os) = some ((Set0 (w.withFollow "special-get-raises" false).params os), (PySem.W.Fast.tw3402775650955021840 (w.withFollow "special-get-raises" false) 9 1 (ps 10 0 10 8) 133 (Se (w.withFollow "special-get-raises" false).params os))) := by kernel_rfl
theorem k_e0t (w : World) (os : OsState) : PySem.W.Fast.tw1672150450837929671 (w.withFollow "special-get-raises" true) 9 1 (ps 10 0 10 8) 133 (Se (w.withFollow "special-get-raises" true).params os) = some ((Set0 (w.withFollow "special-get-raises" true).params os), (PySem.W.Fast.tw3402775650955021840 (w.withFollow "special-get-raises" true) 9 1 (ps 10 0 10 8) 133 (Se (w.withFollow "special-get-raises" true).params os))) := by kernel_rfl
theorem k_e1f (w : World) (os : OsState) : PySem.W.Fast.tw15408578829183395756 (w.withFollow "special-get-raises" false) 1440 (Set0 (w.withFollow "special-get-raises" false).params os) (PySem.W.Fast.tw3402775650955021840 (w.withFollow "special-get-raises" false) 9 1 (ps 10 0 10 8) 133 (Se (w.withFollow "special-get-raises" false).params os)) = some ((Set1 (w.withFollow "special-get-raises" false).params os), (PySem.W.Fast.tw3402775650955021840 (w.withFollow "special-get-raises" false) 9 1 (ps 10 0 10 8) 133 (Se (w.withFollow "special-get-raises" false).params os))) := by kernel_rfl
theorem k_e1t (w : World) (os : OsState) : PySem.W.Fast.tw15408578829183395756 (w.withFollow "special-get-raises" true) 1440 (Set0 (w.withFollow "special-get-raises" true).params os) (PySem.W.Fast.tw3402775650955021840 (w.withFollow "special-get-raises" true) 9 1 (ps 10 0 10 8) 133 (Se (w.withFollow "special-get-raises" true).params os)) = some ((Set1 (w.withFollow "special-get-raises" true).params os), (PySem.W.Fast.tw3402775650955021840 (w.withFollow "special-get-raises" true) 9 1 (ps 10 0 10 8) 133 (Se (w.withFollow "special-get-raises" true).params os))) := by kernel_rfl
theorem k_e2f (w : World) (os : OsState) : PySem.W.Fast.tw15408578829183395756 (w.withFollow "special-get-raises" false) 1440 (Set1 (w.withFollow "special-get-raises" false).params os) (PySem.W.Fast.tw3402775650955021840 (w.withFollow "special-get-raises" false) 9 1 (ps 10 0 10 8) 133 (Se (w.withFollow "special-get-raises" false).params os)) = some ((Set2 (w.withFollow "special-get-raises" false).params os), (PySem.W.Fast.tw3402775650955021840 (w.withFollow "special-get-raises" false) 9 1 (ps 10 0 10 8) 133 (Se (w.withFollow "special-get-raises" false).params os))) := by kernel_rfl
theorem k_e2t (w : World) (os : OsState) : PySem.W.Fast.tw15408578829183395756 (w.withFollow "special-get-raises" true) 1440 (Set1 (w.withFollow "special-get-raises" true).params os) (PySem.W.Fast.tw3402775650955021840 (w.withFollow "special-get-raises" true) 9 1 (ps 10 0 10 8) 133 (Se (w.withFollow "special-get-raises" true).params os)) = some ((Set2 (w.withFollow "special-get-raises" true).params os), (PySem.W.Fast.tw3402775650955021840 (w.withFollow "special-get-raises" true) 9 1 (ps 10 0 10 8) 133 (Se (w.withFollow "special-get-raises" true).params os))) := by kernel_rfl
theorem k_e3f (w : World) (os : OsState) : PySem.W.Fast.tw16049014801019168045 (w.withFollow "special-get-raises" false) 64 (Set2 (w.withFollow "special-get-raises" false).params os) (PySem.W.Fast.tw3402775650955021840 (w.withFollow "special-get-raises" false) 9 1 (ps 10 0 10 8) 133 (Se (w.withFollow "special-get-raises" false).params os)) = PySem.W.Fast.tw735801785457834853 (Sf (w.withFollow "special-get-raises" false).params os) (ps 11 9 11 74) := by kernel_rfl
theorem k_e3t (w : World) (os : OsState) : PySem.W.Fast.tw16049014801019168045 (w.withFollow "special-get-raises" true) 64 (Set2 (w.withFollow "special-get-raises" true).params os) (PySem.W.Fast.tw3402775650955021840 (w.withFollow "special-get-raises" true) 9 1 (ps 10 0 10 8) 133 (Se (w.withFollow "special-get-raises" true).params os)) = PySem.W.Fast.tw735801785457834853 (Sf (w.withFollow "special-get-raises" true).params os) (ps 11 9 11 74) := by kernel_rfl
theorem k_f (w : World) (os : OsState) : PySem.W.Fast.tw13203728891410042911 w 10 1 (ps 11 9 11 74) 25 (Sf w.params os) = PySem.W.Fast.tw735801785457834853 (Sg w.params os) (ps 13 0 13 28) := by kernel_rfl
theorem k_g0f (w : World) (os : OsState) : PySem.W.Fast.tw1672150450837929671 (w.withFollow "special-get-raises" false) 11 1 (ps 13 0 13 28) 99 (Sg (w.withFollow "special-get-raises" false).params os) = some ((Sgt0 (w.withFollow "special-get-raises" false).params os), (PySem.W.Fast.tw3402775650955021840 (w.withFollow "special-get-raises" false) 11 1 (ps 13 0 13 28) 99 (Sg (w.withFollow "special-get-raises" false).params os))) := by kernel_rfl
theorem k_g0t (w : World) (os : OsState) : PySem.W.Fast.tw1672150450837929671 (w.withFollow "special-get-raises" true) 11 1 (ps 13 0 13 28) 99 (Sg (w.withFollow "special-get-raises" true).params os) = some ((Sgt0 (w.withFollow "special-get-raises" true).params os), (PySem.W.Fast.tw3402775650955021840 (w.withFollow "special-get-raises" true) 11 1 (ps 13 0 13 28) 99 (Sg (w.withFollow "special-get-raises" true).params os))) := by kernel_rfl
theorem k_g1f (w : World) (os : OsState) : PySem.W.Fast.tw15408578829183395756 (w.withFollow "special-get-raises" false) 1440 (Sgt0 (w.withFollow "special-get-raises" false).params os) (PySem.W.Fast.tw3402775650955021840 (w.withFollow "special-get-raises" false) 11 1 (ps 13 0 13 28) 99 (Sg (w.withFollow "special-get-raises" false).params os)) = some ((Sgt1 (w.withFollow "special-get-raises" false).params os), (PySem.W.Fast.tw3402775650955021840 (w.withFollow "special-get-raises" false) 11 1 (ps 13 0 13 28) 99 (Sg (w.withFollow "special-get-raises" false).params os))) := by kernel_rfl
theorem k_g1t (w : World) (os : OsState) : PySem.W.Fast.tw15408578829183395756 (w.withFollow "special-get-raises" true) 1440 (Sgt0 (w.withFollow "special-get-raises" true).params os) (PySem.W.Fast.tw3402775650955021840 (w.withFollow "special-get-raises" true) 11 1 (ps 13 0 13 28) 99 (Sg (w.withFollow "special-get-raises" true).params os)) = some ((Sgt1 (w.withFollow "special-get-raises" true).params os), (PySem.W.Fast.tw3402775650955021840 (w.withFollow "special-get-raises" true) 11 1 (ps 13 0 13 28) 99 (Sg (w.withFollow "special-get-raises" true).params os))) := by kernel_rfl
theorem k_g2f (w : World) (os : OsState) : PySem.W.Fast.tw15408578829183395756 (w.withFollow "special-get-raises" false) 1440 (Sgt1 (w.withFollow "special-get-raises" false).params os) (PySem.W.Fast.tw3402775650955021840 (w.withFollow "special-get-raises" false) 11 1 (ps 13 0 13 28) 99 (Sg (w.withFollow "special-get-raises" false).params os)) = some ((Sgt2 (w.withFollow "special-get-raises" false).params os), (PySem.W.Fast.tw3402775650955021840 (w.withFollow "special-get-raises" false) 11 1 (ps 13 0 13 28) 99 (Sg (w.withFollow "special-get-raises" false).params os))) := by kernel_rfl
theorem k_g2t (w : World) (os : OsState) : PySem.W.Fast.tw15408578829183395756 (w.withFollow "special-get-raises" true) 1440 (Sgt1 (w.withFollow "special-get-raises" true).params os) (PySem.W.Fast.tw3402775650955021840 (w.withFollow "special-get-raises" true) 11 1 (ps 13 0 13 28) 99 (Sg (w.withFollow "special-get-raises" true).params os)) = some ((Sgt2 (w.withFollow "special-get-raises" true).params os), (PySem.W.Fast.tw3402775650955021840 (w.withFollow "special-get-raises" true) 11 1 (ps 13 0 13 28) 99 (Sg (w.withFollow "special-get-raises" true).params os))) := by kernel_rfl
theorem k_g3f (w : World) (os : OsState) : PySem.W.Fast.tw16049014801019168045 (w.withFollow "special-get-raises" false) 1324 (Sgt2 (w.withFollow "special-get-raises" false).params os) (PySem.W.Fast.tw3402775650955021840 (w.withFollow "special-get-raises" false) 11 1 (ps 13 0 13 28) 99 (Sg (w.withFollow "special-get-raises" false).params os)) = PySem.W.Fast.tw735801785457834853 (Sh (w.withFollow "special-get-raises" false).params os) (ps 14 9 14 110) := by kernel_rfl
theorem k_g3t (w : World) (os : OsState) : PySem.W.Fast.tw16049014801019168045 (w.withFollow "special-get-raises" true) 1324 (Sgt2 (w.withFollow "special-get-raises" true).params os) (PySem.W.Fast.tw3402775650955021840 (w.withFollow "special-get-raises" true) 11 1 (ps 13 0 13 28) 99 (Sg (w.withFollow "special-get-raises" true).params os)) = PySem.W.Fast.tw735801785457834853 (Sh (w.withFollow "special-get-raises" true).params os) (ps 14 9 14 110) := by kernel_rfl
theorem k_hf (w : World) (os : OsState) : PySem.W.Fast.tw17006519350225527370 (w.withFollow "special-get-raises" false) 12 (ps 14 9 14 110) 500 (Sa (w.withFollow "special-get-raises" false).params os) (Sh (w.withFollow "special-get-raises" false).params os) = some PySem.W.Fast.tw11821348550594096276 := by kernel_rfl
theorem k_ht (w : World) (os : OsState) : PySem.W.Fast.tw17006519350225527370 (w.withFollow "special-get-raises" true) 12 (ps 14 9 14 110) 500 (Sa (w.withFollow "special-get-raises" true).params os) (Sh (w.withFollow "special-get-raises" true).params os) = some PySem.W.Fast.tw11821348550594096276 := by kernel_rfl
end Mine
end

section
open PySem PySem.W PyProof.Rows PySem.Calls
set_option Elab.async false
set_option maxRecDepth 100000
namespace Mine
abbrev q0 : Pos := ps 0 0 0 0
theorem go_part {w : World} {a n k N : Nat} {pos : Pos} {S S' : SharedT} {t : Thread} {r : Flow × Shared × Code × Pos} (h : partGo w a n pos k S = some (S', t)) (k2 : segRun treeTable pw w 28 annTop 1 N S'.abs t = some r) :
    segRun treeTable pw w 28 annTop 1 (k + N) S.abs (piecesOf (bodyPart a n) envTop cdTop pos [topFrame q0]) = some r := seg_go (segGo_of h) k2
theorem go_turn {w : World} {k N : Nat} {S S' : SharedT} {t t' : Thread} {r : Flow × Shared × Code × Pos} (h : turnGo w k S t = some (S', t')) (k2 : segRun treeTable pw w 28 annTop 1 N S'.abs t' = some r) :
    segRun treeTable pw w 28 annTop 1 (k + N) S.abs t = some r := seg_go (segGo_of h) k2
theorem run_turn {w : World} {k : Nat} {S S' : SharedT} {t : Thread} {pos' : Pos} (h : turnRun w k S t = partEnd S' pos') : segRun treeTable pw w 28 annTop 1 k S.abs t = some (.next, S'.abs, cdTop, pos') := segRun_of h
theorem run_part {w : World} {a n k : Nat} {pos pos' : Pos} {S S' : SharedT} (h : partRun w a n pos k S = partEnd S' pos') :
    segRun treeTable pw w 28 annTop 1 k S.abs (piecesOf (bodyPart a n) envTop cdTop pos [topFrame q0]) = some (.next, S'.abs, cdTop, pos') := segRun_of h
theorem rest_step {w : World} {a n k N : Nat} {pos pos' : Pos} {s s' r : Shared} (h : segRun treeTable pw w 28 annTop 1 k s (piecesOf (bodyPart a n) envTop cdTop pos [topFrame q0]) = some (.next, s', cdTop, pos'))
    (k2 : topRun treeTable pw w 28 annTop N s' (restOf (bodyAll.drop (a + n)) envTop cdTop pos' [topFrame q0]) = some r) : topRun treeTable pw w 28 annTop (k + N) s (restOf (bodyAll.drop a) envTop cdTop pos [topFrame q0]) = some r := by
  have e : bodyAll.drop a = bodyPart a n ++ bodyAll.drop (a + n) := by
    unfold bodyPart
    rw [← List.drop_drop]
    exact (List.take_append_drop n (bodyAll.drop a)).symm
  rw [e]
  exact piece_app h k2
/-- what the checks and the look give at the end -/
def EndOk (w : World) (os : OsState) (s3 : Shared) : Prop :=
  (staticsOk (importedModules pw.main.body) (Sa w.params os).abs.heap s3.heap && namesBound pw s3.heap && gensDone s3 && laidKept (Sa w.params os).abs.heap s3.heap) = true ∧
  (openSeen qv looseL (importedModules pw.main.body) (fun _ => true) true s3, seenOf s3) = evGood
theorem end_spec {w : World} {os : OsState} {a N : Nat} {pos : Pos} {S : SharedT} (h : endLook w a pos N (Sa w.params os) S = some evGood) :
    ∃ s3, topRun treeTable pw w 28 annTop N S.abs (restOf (bodyAll.drop a) envTop cdTop pos [topFrame q0]) = some s3 ∧ EndOk w os s3 := by
  unfold endLook at h
  cases h5 : topT pw w 28 annTop N S (restOf (bodyAll.drop a) envTop cdTop pos [topFrame (ps 0 0 0 0)]) with
  | none => rw [h5] at h; cases h
  | some S3 =>
    rw [h5] at h
    dsimp only at h
    refine ⟨S3.abs, topT_spec h5, ?_⟩
    cases h6 : (staticsOk (importedModules pw.main.body) (Sa w.params os).abs.heap S3.abs.heap && namesBound pw S3.abs.heap && gensDone S3.abs && laidKept (Sa w.params os).abs.heap S3.abs.heap) with
    | false => rw [h6] at h; cases h
    | true => rw [h6] at h; exact ⟨h6, Option.some.inj h⟩
def CompGoes (w : World) : Prop := ∀ os : OsState, ∃ k, k ≤ 100 ∧ partGo w 1 1 (ps 2 0 2 10) k (Sc w.params os) = some (Sct0 w.params os, (partThread (w.withFollow "comprehension-iter-twice" true) 1 1 (ps 2 0 2 10) 78 (Sc (w.withFollow "comprehension-iter-twice" true).params os)))
theorem comp_goes (w : World) : CompGoes w :=
  byRow2 "comprehension-iter-twice" (P := CompGoes)
    (byRow2 "special-get-raises" (P := fun w => CompGoes (w.withFollow "comprehension-iter-twice" false)) (fun w os => ⟨88, by decide, by rw [PySem.W.Fast.te1672150450837929671, PySem.W.Fast.te3402775650955021840]; exact k_c0ff w os⟩)
      (fun w os => ⟨88, by decide, by rw [PySem.W.Fast.te1672150450837929671, PySem.W.Fast.te3402775650955021840]; exact k_c0ft w os⟩))
    (byRow2 "special-get-raises" (P := fun w => CompGoes (w.withFollow "comprehension-iter-twice" true)) (fun w os => ⟨78, by decide, by rw [PySem.W.Fast.te1672150450837929671, PySem.W.Fast.te3402775650955021840]; exact k_c0tf w os⟩)
      (fun w os => ⟨78, by decide, by rw [PySem.W.Fast.te1672150450837929671, PySem.W.Fast.te3402775650955021840]; exact k_c0tt w os⟩))
    w
def RunGoes (w : World) : Prop := ∀ os : OsState, ∃ M, M ≤ 20000 ∧ ∃ s3, topRun treeTable pw w 28 annTop M (Sa w.params os).abs (topStub pw) = some s3 ∧ EndOk w os s3
theorem pre_spec {w : World} {os : OsState} {N : Nat} {r : Shared} (k2 : topRun treeTable pw w 28 annTop N (Sb w.params os).abs (restOf (bodyAll.drop 0) envTop cdTop q0 [topFrame q0]) = some r) :
    topRun treeTable pw w 28 annTop (12 + (1 + N)) (Sa w.params os).abs (topStub pw) = some r := by
  have h1 : preLook w (Sa w.params os) = some (Sb w.params os, preThread) := by rw [PySem.W.Fast.te11860812695316227881, PySem.W.Fast.te7612776768304943245]; exact k_pre w os
  have h2 : blockRun w (Sb w.params os) = partEnd (Sb w.params os) (ps 0 0 0 0) := by rw [PySem.W.Fast.te11092726090914983303, PySem.W.Fast.te735801785457834853]; exact k_block w os
  exact go_top (goT_spec h1) (piece_block (segRun_of h2) k2)
theorem run_goes_f (w : World) : RunGoes (w.withFollow "special-get-raises" false) := fun os => by
  obtain ⟨k0, hk0, hc0⟩ := comp_goes (w.withFollow "special-get-raises" false) os
  have hp0 : partRun (w.withFollow "special-get-raises" false) 0 1 (ps 0 0 0 0) 79 (Sb (w.withFollow "special-get-raises" false).params os) = partEnd (Sc (w.withFollow "special-get-raises" false).params os) (ps 2 0 2 10) := by rw [PySem.W.Fast.te13203728891410042911, PySem.W.Fast.te735801785457834853]; exact k_p0 (w.withFollow "special-get-raises" false) os
  have hc1 : turnGo (w.withFollow "special-get-raises" false) 1184 (Sct0 (w.withFollow "special-get-raises" false).params os) (partThread ((w.withFollow "special-get-raises" false).withFollow "comprehension-iter-twice" true) 1 1 (ps 2 0 2 10) 78 (Sc ((w.withFollow "special-get-raises" false).withFollow "comprehension-iter-twice" true).params os)) = some (Sct1 (w.withFollow "special-get-raises" false).params os, (partThread ((w.withFollow "special-get-raises" false).withFollow "comprehension-iter-twice" true) 1 1 (ps 2 0 2 10) 78 (Sc ((w.withFollow "special-get-raises" false).withFollow "comprehension-iter-twice" true).params os))) := by rw [PySem.W.Fast.te15408578829183395756, PySem.W.Fast.te3402775650955021840]; exact k_c1f w os
  have hc2 : turnGo (w.withFollow "special-get-raises" false) 1184 (Sct1 (w.withFollow "special-get-raises" false).params os) (partThread ((w.withFollow "special-get-raises" false).withFollow "comprehension-iter-twice" true) 1 1 (ps 2 0 2 10) 78 (Sc ((w.withFollow "special-get-raises" false).withFollow "comprehension-iter-twice" true).params os)) = some (Sct2 (w.withFollow "special-get-raises" false).params os, (partThread ((w.withFollow "special-get-raises" false).withFollow "comprehension-iter-twice" true) 1 1 (ps 2 0 2 10) 78 (Sc ((w.withFollow "special-get-raises" false).withFollow "comprehension-iter-twice" true).params os))) := by rw [PySem.W.Fast.te15408578829183395756, PySem.W.Fast.te3402775650955021840]; exact k_c2f w os
  have hc3 : turnGo (w.withFollow "special-get-raises" false) 1184 (Sct2 (w.withFollow "special-get-raises" false).params os) (partThread ((w.withFollow "special-get-raises" false).withFollow "comprehension-iter-twice" true) 1 1 (ps 2 0 2 10) 78 (Sc ((w.withFollow "special-get-raises" false).withFollow "comprehension-iter-twice" true).params os)) = some (Sct3 (w.withFollow "special-get-raises" false).params os, (partThread ((w.withFollow "special-get-raises" false).withFollow "comprehension-iter-twice" true) 1 1 (ps 2 0 2 10) 78 (Sc ((w.withFollow "special-get-raises" false).withFollow "comprehension-iter-twice" true).params os))) := by rw [PySem.W.Fast.te15408578829183395756, PySem.W.Fast.te3402775650955021840]; exact k_c3f w os
  have hc4 : turnGo (w.withFollow "special-get-raises" false) 1184 (Sct3 (w.withFollow "special-get-raises" false).params os) (partThread ((w.withFollow "special-get-raises" false).withFollow "comprehension-iter-twice" true) 1 1 (ps 2 0 2 10) 78 (Sc ((w.withFollow "special-get-raises" false).withFollow "comprehension-iter-twice" true).params os)) = some (Sct4 (w.withFollow "special-get-raises" false).params os, (partThread ((w.withFollow "special-get-raises" false).withFollow "comprehension-iter-twice" true) 1 1 (ps 2 0 2 10) 78 (Sc ((w.withFollow "special-get-raises" false).withFollow "comprehension-iter-twice" true).params os))) := by rw [PySem.W.Fast.te15408578829183395756, PySem.W.Fast.te3402775650955021840]; exact k_c4f w os
  have hc5 : turnGo (w.withFollow "special-get-raises" false) 1184 (Sct4 (w.withFollow "special-get-raises" false).params os) (partThread ((w.withFollow "special-get-raises" false).withFollow "comprehension-iter-twice" true) 1 1 (ps 2 0 2 10) 78 (Sc ((w.withFollow "special-get-raises" false).withFollow "comprehension-iter-twice" true).params os)) = some (Sct5 (w.withFollow "special-get-raises" false).params os, (partThread ((w.withFollow "special-get-raises" false).withFollow "comprehension-iter-twice" true) 1 1 (ps 2 0 2 10) 78 (Sc ((w.withFollow "special-get-raises" false).withFollow "comprehension-iter-twice" true).params os))) := by rw [PySem.W.Fast.te15408578829183395756, PySem.W.Fast.te3402775650955021840]; exact k_c5f w os
  have hc6 : turnGo (w.withFollow "special-get-raises" false) 1184 (Sct5 (w.withFollow "special-get-raises" false).params os) (partThread ((w.withFollow "special-get-raises" false).withFollow "comprehension-iter-twice" true) 1 1 (ps 2 0 2 10) 78 (Sc ((w.withFollow "special-get-raises" false).withFollow "comprehension-iter-twice" true).params os)) = some (Sct6 (w.withFollow "special-get-raises" false).params os, (partThread ((w.withFollow "special-get-raises" false).withFollow "comprehension-iter-twice" true) 1 1 (ps 2 0 2 10) 78 (Sc ((w.withFollow "special-get-raises" false).withFollow "comprehension-iter-twice" true).params os))) := by rw [PySem.W.Fast.te15408578829183395756, PySem.W.Fast.te3402775650955021840]; exact k_c6f w os
  have hc7 : turnGo (w.withFollow "special-get-raises" false) 1184 (Sct6 (w.withFollow "special-get-raises" false).params os) (partThread ((w.withFollow "special-get-raises" false).withFollow "comprehension-iter-twice" true) 1 1 (ps 2 0 2 10) 78 (Sc ((w.withFollow "special-get-raises" false).withFollow "comprehension-iter-twice" true).params os)) = some (Sct7 (w.withFollow "special-get-raises" false).params os, (partThread ((w.withFollow "special-get-raises" false).withFollow "comprehension-iter-twice" true) 1 1 (ps 2 0 2 10) 78 (Sc ((w.withFollow "special-get-raises" false).withFollow "comprehension-iter-twice" true).params os))) := by rw [PySem.W.Fast.te15408578829183395756, PySem.W.Fast.te3402775650955021840]; exact k_c7f w os
  have hc8 : turnRun (w.withFollow "special-get-raises" false) 1176 (Sct7 (w.withFollow "special-get-raises" false).params os) (partThread ((w.withFollow "special-get-raises" false).withFollow "comprehension-iter-twice" true) 1 1 (ps 2 0 2 10) 78 (Sc ((w.withFollow "special-get-raises" false).withFollow "comprehension-iter-twice" true).params os)) = partEnd (Sd (w.withFollow "special-get-raises" false).params os) (ps 3 0 3 11) := by rw [PySem.W.Fast.te16049014801019168045, PySem.W.Fast.te3402775650955021840, PySem.W.Fast.te735801785457834853]; exact k_c8f w os
  have hd : partRun (w.withFollow "special-get-raises" false) 2 7 (ps 3 0 3 11) 109 (Sd (w.withFollow "special-get-raises" false).params os) = partEnd (Se (w.withFollow "special-get-raises" false).params os) (ps 10 0 10 8) := by rw [PySem.W.Fast.te13203728891410042911, PySem.W.Fast.te735801785457834853]; exact k_d (w.withFollow "special-get-raises" false) os
  have he0 : partGo (w.withFollow "special-get-raises" false) 9 1 (ps 10 0 10 8) 133 (Se (w.withFollow "special-get-raises" false).params os) = some (Set0 (w.withFollow "special-get-raises" false).params os, (partThread (w.withFollow "special-get-raises" false) 9 1 (ps 10 0 10 8) 133 (Se (w.withFollow "special-get-raises" false).params os))) := by rw [PySem.W.Fast.te1672150450837929671, PySem.W.Fast.te3402775650955021840]; exact k_e0f w os
  have he1 : turnGo (w.withFollow "special-get-raises" false) 1440 (Set0 (w.withFollow "special-get-raises" false).params os) (partThread (w.withFollow "special-get-raises" false) 9 1 (ps 10 0 10 8) 133 (Se (w.withFollow "special-get-raises" false).params os)) = some (Set1 (w.withFollow "special-get-raises" false).params os, (partThread (w.withFollow "special-get-raises" false) 9 1 (ps 10 0 10 8) 133 (Se (w.withFollow "special-get-raises" false).params os))) := by rw [PySem.W.Fast.te15408578829183395756, PySem.W.Fast.te3402775650955021840]; exact k_e1f w os
  have he2 : turnGo (w.withFollow "special-get-raises" false) 1440 (Set1 (w.withFollow "special-get-raises" false).params os) (partThread (w.withFollow "special-get-raises" false) 9 1 (ps 10 0 10 8) 133 (Se (w.withFollow "special-get-raises" false).params os)) = some (Set2 (w.withFollow "special-get-raises" false).params os, (partThread (w.withFollow "special-get-raises" false) 9 1 (ps 10 0 10 8) 133 (Se (w.withFollow "special-get-raises" false).params os))) := by rw [PySem.W.Fast.te15408578829183395756, PySem.W.Fast.te3402775650955021840]; exact k_e2f w os
  have he3 : turnRun (w.withFollow "special-get-raises" false) 64 (Set2 (w.withFollow "special-get-raises" false).params os) (partThread (w.withFollow "special-get-raises" false) 9 1 (ps 10 0 10 8) 133 (Se (w.withFollow "special-get-raises" false).params os)) = partEnd (Sf (w.withFollow "special-get-raises" false).params os) (ps 11 9 11 74) := by rw [PySem.W.Fast.te16049014801019168045, PySem.W.Fast.te3402775650955021840, PySem.W.Fast.te735801785457834853]; exact k_e3f w os
  have hf : partRun (w.withFollow "special-get-raises" false) 10 1 (ps 11 9 11 74) 25 (Sf (w.withFollow "special-get-raises" false).params os) = partEnd (Sg (w.withFollow "special-get-raises" false).params os) (ps 13 0 13 28) := by rw [PySem.W.Fast.te13203728891410042911, PySem.W.Fast.te735801785457834853]; exact k_f (w.withFollow "special-get-raises" false) os
  have hg0 : partGo (w.withFollow "special-get-raises" false) 11 1 (ps 13 0 13 28) 99 (Sg (w.withFollow "special-get-raises" false).params os) = some (Sgt0 (w.withFollow "special-get-raises" false).params os, (partThread (w.withFollow "special-get-raises" false) 11 1 (ps 13 0 13 28) 99 (Sg (w.withFollow "special-get-raises" false).params os))) := by rw [PySem.W.Fast.te1672150450837929671, PySem.W.Fast.te3402775650955021840]; exact k_g0f w os
  have hg1 : turnGo (w.withFollow "special-get-raises" false) 1440 (Sgt0 (w.withFollow "special-get-raises" false).params os) (partThread (w.withFollow "special-get-raises" false) 11 1 (ps 13 0 13 28) 99 (Sg (w.withFollow "special-get-raises" false).params os)) = some (Sgt1 (w.withFollow "special-get-raises" false).params os, (partThread (w.withFollow "special-get-raises" false) 11 1 (ps 13 0 13 28) 99 (Sg (w.withFollow "special-get-raises" false).params os))) := by rw [PySem.W.Fast.te15408578829183395756, PySem.W.Fast.te3402775650955021840]; exact k_g1f w os
  have hg2 : turnGo (w.withFollow "special-get-raises" false) 1440 (Sgt1 (w.withFollow "special-get-raises" false).params os) (partThread (w.withFollow "special-get-raises" false) 11 1 (ps 13 0 13 28) 99 (Sg (w.withFollow "special-get-raises" false).params os)) = some (Sgt2 (w.withFollow "special-get-raises" false).params os, (partThread (w.withFollow "special-get-raises" false) 11 1 (ps 13 0 13 28) 99 (Sg (w.withFollow "special-get-raises" false).params os))) := by rw [PySem.W.Fast.te15408578829183395756, PySem.W.Fast.te3402775650955021840]; exact k_g2f w os
  have hg3 : turnRun (w.withFollow "special-get-raises" false) 1324 (Sgt2 (w.withFollow "special-get-raises" false).params os) (partThread (w.withFollow "special-get-raises" false) 11 1 (ps 13 0 13 28) 99 (Sg (w.withFollow "special-get-raises" false).params os)) = partEnd (Sh (w.withFollow "special-get-raises" false).params os) (ps 14 9 14 110) := by rw [PySem.W.Fast.te16049014801019168045, PySem.W.Fast.te3402775650955021840, PySem.W.Fast.te735801785457834853]; exact k_g3f w os
  have hh : endLook (w.withFollow "special-get-raises" false) 12 (ps 14 9 14 110) 500 (Sa (w.withFollow "special-get-raises" false).params os) (Sh (w.withFollow "special-get-raises" false).params os) = some evGood := by rw [PySem.W.Fast.te17006519350225527370, PySem.W.Fast.te11821348550594096276]; exact k_hf w os
  obtain ⟨s3, r3, ok⟩ := end_spec hh
  have rg := rest_step (go_part hg0 (go_turn hg1 (go_turn hg2 (run_turn hg3)))) r3
  have rf := rest_step (run_part hf) rg
  have re := rest_step (go_part he0 (go_turn he1 (go_turn he2 (run_turn he3)))) rf
  have rd := rest_step (run_part hd) re
  have rc := rest_step (go_part hc0 (go_turn hc1 (go_turn hc2 (go_turn hc3 (go_turn hc4 (go_turn hc5 (go_turn hc6 (go_turn hc7 (run_turn hc8))))))))) rd
  have rp := rest_step (run_part hp0) rc
  exact ⟨_, by omega, s3, pre_spec rp, ok⟩
theorem run_goes_t (w : World) : RunGoes (w.withFollow "special-get-raises" true) := fun os => by
  obtain ⟨k0, hk0, hc0⟩ := comp_goes (w.withFollow "special-get-raises" true) os
  have hp0 : partRun (w.withFollow "special-get-raises" true) 0 1 (ps 0 0 0 0) 79 (Sb (w.withFollow "special-get-raises" true).params os) = partEnd (Sc (w.withFollow "special-get-raises" true).params os) (ps 2 0 2 10) := by rw [PySem.W.Fast.te13203728891410042911, PySem.W.Fast.te735801785457834853]; exact k_p0 (w.withFollow "special-get-raises" true) os
  have hc1 : turnGo (w.withFollow "special-get-raises" true) 1184 (Sct0 (w.withFollow "special-get-raises" true).params os) (partThread ((w.withFollow "special-get-raises" true).withFollow "comprehension-iter-twice" true) 1 1 (ps 2 0 2 10) 78 (Sc ((w.withFollow "special-get-raises" true).withFollow "comprehension-iter-twice" true).params os)) = some (Sct1 (w.withFollow "special-get-raises" true).params os, (partThread ((w.withFollow "special-get-raises" true).withFollow "comprehension-iter-twice" true) 1 1 (ps 2 0 2 10) 78 (Sc ((w.withFollow "special-get-raises" true).withFollow "comprehension-iter-twice" true).params os))) := by rw [PySem.W.Fast.te15408578829183395756, PySem.W.Fast.te3402775650955021840]; exact k_c1t w os
  have hc2 : turnGo (w.withFollow "special-get-raises" true) 1184 (Sct1 (w.withFollow "special-get-raises" true).params os) (partThread ((w.withFollow "special-get-raises" true).withFollow "comprehension-iter-twice" true) 1 1 (ps 2 0 2 10) 78 (Sc ((w.withFollow "special-get-raises" true).withFollow "comprehension-iter-twice" true).params os)) = some (Sct2 (w.withFollow "special-get-raises" true).params os, (partThread ((w.withFollow "special-get-raises" true).withFollow "comprehension-iter-twice" true) 1 1 (ps 2 0 2 10) 78 (Sc ((w.withFollow "special-get-raises" true).withFollow "comprehension-iter-twice" true).params os))) := by rw [PySem.W.Fast.te15408578829183395756, PySem.W.Fast.te3402775650955021840]; exact k_c2t w os
  have hc3 : turnGo (w.withFollow "special-get-raises" true) 1184 (Sct2 (w.withFollow "special-get-raises" true).params os) (partThread ((w.withFollow "special-get-raises" true).withFollow "comprehension-iter-twice" true) 1 1 (ps 2 0 2 10) 78 (Sc ((w.withFollow "special-get-raises" true).withFollow "comprehension-iter-twice" true).params os)) = some (Sct3 (w.withFollow "special-get-raises" true).params os, (partThread ((w.withFollow "special-get-raises" true).withFollow "comprehension-iter-twice" true) 1 1 (ps 2 0 2 10) 78 (Sc ((w.withFollow "special-get-raises" true).withFollow "comprehension-iter-twice" true).params os))) := by rw [PySem.W.Fast.te15408578829183395756, PySem.W.Fast.te3402775650955021840]; exact k_c3t w os
  have hc4 : turnGo (w.withFollow "special-get-raises" true) 1184 (Sct3 (w.withFollow "special-get-raises" true).params os) (partThread ((w.withFollow "special-get-raises" true).withFollow "comprehension-iter-twice" true) 1 1 (ps 2 0 2 10) 78 (Sc ((w.withFollow "special-get-raises" true).withFollow "comprehension-iter-twice" true).params os)) = some (Sct4 (w.withFollow "special-get-raises" true).params os, (partThread ((w.withFollow "special-get-raises" true).withFollow "comprehension-iter-twice" true) 1 1 (ps 2 0 2 10) 78 (Sc ((w.withFollow "special-get-raises" true).withFollow "comprehension-iter-twice" true).params os))) := by rw [PySem.W.Fast.te15408578829183395756, PySem.W.Fast.te3402775650955021840]; exact k_c4t w os
  have hc5 : turnGo (w.withFollow "special-get-raises" true) 1184 (Sct4 (w.withFollow "special-get-raises" true).params os) (partThread ((w.withFollow "special-get-raises" true).withFollow "comprehension-iter-twice" true) 1 1 (ps 2 0 2 10) 78 (Sc ((w.withFollow "special-get-raises" true).withFollow "comprehension-iter-twice" true).params os)) = some (Sct5 (w.withFollow "special-get-raises" true).params os, (partThread ((w.withFollow "special-get-raises" true).withFollow "comprehension-iter-twice" true) 1 1 (ps 2 0 2 10) 78 (Sc ((w.withFollow "special-get-raises" true).withFollow "comprehension-iter-twice" true).params os))) := by rw [PySem.W.Fast.te15408578829183395756, PySem.W.Fast.te3402775650955021840]; exact k_c5t w os
  have hc6 : turnGo (w.withFollow "special-get-raises" true) 1184 (Sct5 (w.withFollow "special-get-raises" true).params os) (partThread ((w.withFollow "special-get-raises" true).withFollow "comprehension-iter-twice" true) 1 1 (ps 2 0 2 10) 78 (Sc ((w.withFollow "special-get-raises" true).withFollow "comprehension-iter-twice" true).params os)) = some (Sct6 (w.withFollow "special-get-raises" true).params os, (partThread ((w.withFollow "special-get-raises" true).withFollow "comprehension-iter-twice" true) 1 1 (ps 2 0 2 10) 78 (Sc ((w.withFollow "special-get-raises" true).withFollow "comprehension-iter-twice" true).params os))) := by rw [PySem.W.Fast.te15408578829183395756, PySem.W.Fast.te3402775650955021840]; exact k_c6t w os
  have hc7 : turnGo (w.withFollow "special-get-raises" true) 1184 (Sct6 (w.withFollow "special-get-raises" true).params os) (partThread ((w.withFollow "special-get-raises" true).withFollow "comprehension-iter-twice" true) 1 1 (ps 2 0 2 10) 78 (Sc ((w.withFollow "special-get-raises" true).withFollow "comprehension-iter-twice" true).params os)) = some (Sct7 (w.withFollow "special-get-raises" true).params os, (partThread ((w.withFollow "special-get-raises" true).withFollow "comprehension-iter-twice" true) 1 1 (ps 2 0 2 10) 78 (Sc ((w.withFollow "special-get-raises" true).withFollow "comprehension-iter-twice" true).params os))) := by rw [PySem.W.Fast.te15408578829183395756, PySem.W.Fast.te3402775650955021840]; exact k_c7t w os
  have hc8 : turnRun (w.withFollow "special-get-raises" true) 1176 (Sct7 (w.withFollow "special-get-raises" true).params os) (partThread ((w.withFollow "special-get-raises" true).withFollow "comprehension-iter-twice" true) 1 1 (ps 2 0 2 10) 78 (Sc ((w.withFollow "special-get-raises" true).withFollow "comprehension-iter-twice" true).params os)) = partEnd (Sd (w.withFollow "special-get-raises" true).params os) (ps 3 0 3 11) := by rw [PySem.W.Fast.te16049014801019168045, PySem.W.Fast.te3402775650955021840, PySem.W.Fast.te735801785457834853]; exact k_c8t w os
  have hd : partRun (w.withFollow "special-get-raises" true) 2 7 (ps 3 0 3 11) 109 (Sd (w.withFollow "special-get-raises" true).params os) = partEnd (Se (w.withFollow "special-get-raises" true).params os) (ps 10 0 10 8) := by rw [PySem.W.Fast.te13203728891410042911, PySem.W.Fast.te735801785457834853]; exact k_d (w.withFollow "special-get-raises" true) os
  have he0 : partGo (w.withFollow "special-get-raises" true) 9 1 (ps 10 0 10 8) 133 (Se (w.withFollow "special-get-raises" true).params os) = some (Set0 (w.withFollow "special-get-raises" true).params os, (partThread (w.withFollow "special-get-raises" true) 9 1 (ps 10 0 10 8) 133 (Se (w.withFollow "special-get-raises" true).params os))) := by rw [PySem.W.Fast.te1672150450837929671, PySem.W.Fast.te3402775650955021840]; exact k_e0t w os
  have he1 : turnGo (w.withFollow "special-get-raises" true) 1440 (Set0 (w.withFollow "special-get-raises" true).params os) (partThread (w.withFollow "special-get-raises" true) 9 1 (ps 10 0 10 8) 133 (Se (w.withFollow "special-get-raises" true).params os)) = some (Set1 (w.withFollow "special-get-raises" true).params os, (partThread (w.withFollow "special-get-raises" true) 9 1 (ps 10 0 10 8) 133 (Se (w.withFollow "special-get-raises" true).params os))) := by rw [PySem.W.Fast.te15408578829183395756, PySem.W.Fast.te3402775650955021840]; exact k_e1t w os
  have he2 : turnGo (w.withFollow "special-get-raises" true) 1440 (Set1 (w.withFollow "special-get-raises" true).params os) (partThread (w.withFollow "special-get-raises" true) 9 1 (ps 10 0 10 8) 133 (Se (w.withFollow "special-get-raises" true).params os)) = some (Set2 (w.withFollow "special-get-raises" true).params os, (partThread (w.withFollow "special-get-raises" true) 9 1 (ps 10 0 10 8) 133 (Se (w.withFollow "special-get-raises" true).params os))) := by rw [PySem.W.Fast.te15408578829183395756, PySem.W.Fast.te3402775650955021840]; exact k_e2t w os
  have he3 : turnRun (w.withFollow "special-get-raises" true) 64 (Set2 (w.withFollow "special-get-raises" true).params os) (partThread (w.withFollow "special-get-raises" true) 9 1 (ps 10 0 10 8) 133 (Se (w.withFollow "special-get-raises" true).params os)) = partEnd (Sf (w.withFollow "special-get-raises" true).params os) (ps 11 9 11 74) := by rw [PySem.W.Fast.te16049014801019168045, PySem.W.Fast.te3402775650955021840, PySem.W.Fast.te735801785457834853]; exact k_e3t w os
  have hf : partRun (w.withFollow "special-get-raises" true) 10 1 (ps 11 9 11 74) 25 (Sf (w.withFollow "special-get-raises" true).params os) = partEnd (Sg (w.withFollow "special-get-raises" true).params os) (ps 13 0 13 28) := by rw [PySem.W.Fast.te13203728891410042911, PySem.W.Fast.te735801785457834853]; exact k_f (w.withFollow "special-get-raises" true) os
  have hg0 : partGo (w.withFollow "special-get-raises" true) 11 1 (ps 13 0 13 28) 99 (Sg (w.withFollow "special-get-raises" true).params os) = some (Sgt0 (w.withFollow "special-get-raises" true).params os, (partThread (w.withFollow "special-get-raises" true) 11 1 (ps 13 0 13 28) 99 (Sg (w.withFollow "special-get-raises" true).params os))) := by rw [PySem.W.Fast.te1672150450837929671, PySem.W.Fast.te3402775650955021840]; exact k_g0t w os
  have hg1 : turnGo (w.withFollow "special-get-raises" true) 1440 (Sgt0 (w.withFollow "special-get-raises" true).params os) (partThread (w.withFollow "special-get-raises" true) 11 1 (ps 13 0 13 28) 99 (Sg (w.withFollow "special-get-raises" true).params os)) = some (Sgt1 (w.withFollow "special-get-raises" true).params os, (partThread (w.withFollow "special-get-raises" true) 11 1 (ps 13 0 13 28) 99 (Sg (w.withFollow "special-get-raises" true).params os))) := by rw [PySem.W.Fast.te15408578829183395756, PySem.W.Fast.te3402775650955021840]; exact k_g1t w os
  have hg2 : turnGo (w.withFollow "special-get-raises" true) 1440 (Sgt1 (w.withFollow "special-get-raises" true).params os) (partThread (w.withFollow "special-get-raises" true) 11 1 (ps 13 0 13 28) 99 (Sg (w.withFollow "special-get-raises" true).params os)) = some (Sgt2 (w.withFollow "special-get-raises" true).params os, (partThread (w.withFollow "special-get-raises" true) 11 1 (ps 13 0 13 28) 99 (Sg (w.withFollow "special-get-raises" true).params os))) := by rw [PySem.W.Fast.te15408578829183395756, PySem.W.Fast.te3402775650955021840]; exact k_g2t w os
  have hg3 : turnRun (w.withFollow "special-get-raises" true) 1324 (Sgt2 (w.withFollow "special-get-raises" true).params os) (partThread (w.withFollow "special-get-raises" true) 11 1 (ps 13 0 13 28) 99 (Sg (w.withFollow "special-get-raises" true).params os)) = partEnd (Sh (w.withFollow "special-get-raises" true).params os) (ps 14 9 14 110) := by rw [PySem.W.Fast.te16049014801019168045, PySem.W.Fast.te3402775650955021840, PySem.W.Fast.te735801785457834853]; exact k_g3t w os
  have hh : endLook (w.withFollow "special-get-raises" true) 12 (ps 14 9 14 110) 500 (Sa (w.withFollow "special-get-raises" true).params os) (Sh (w.withFollow "special-get-raises" true).params os) = some evGood := by rw [PySem.W.Fast.te17006519350225527370, PySem.W.Fast.te11821348550594096276]; exact k_ht w os
  obtain ⟨s3, r3, ok⟩ := end_spec hh
  have rg := rest_step (go_part hg0 (go_turn hg1 (go_turn hg2 (run_turn hg3)))) r3
  have rf := rest_step (run_part hf) rg
  have re := rest_step (go_part he0 (go_turn he1 (go_turn he2 (run_turn he3)))) rf
  have rd := rest_step (run_part hd) re
  have rc := rest_step (go_part hc0 (go_turn hc1 (go_turn hc2 (go_turn hc3 (go_turn hc4 (go_turn hc5 (go_turn hc6 (go_turn hc7 (run_turn hc8))))))))) rd
  have rp := rest_step (run_part hp0) rc
  exact ⟨_, by omega, s3, pre_spec rp, ok⟩
theorem run_goes (w : World) : RunGoes w := byRow2 "special-get-raises" (P := RunGoes) run_goes_f run_goes_t w
theorem k_ns (w : World) (os : OsState) : ((Sa w.params os).abs.heap.isNs mainGlobals && (Sa w.params os).abs.gens.size == 0) = true := by kernel_rfl
theorem k_ann (w : World) (os : OsState) : (Sa w.params os).abs.heap.nsMap mainGlobals "__annotations__" = annTop := by kernel_rfl
theorem left_all : LeftO pw qv looseL (fun _ => true) seenOf (fun _ => seenGood) 20000 := fun w => by
  have ho : openLook w = some (openWant w) := by rw [PySem.W.Fast.te14421616979272910865]; exact k_open w
  obtain ⟨⟨h, gs, d, k, os⟩, e, e'⟩ := Option.map_eq_some_iff.mp (openLook_spec ho)
  have es : (⟨h, gs, d, k, os⟩ : Shared) = (Sa w.params os).abs := by
    unfold openWant at e'
    obtain ⟨e1, e2, e3, e4⟩ : h = _ ∧ gs = _ ∧ d = _ ∧ k = _ := by simpa only [Prod.mk.injEq] using e'
    rw [e1, e2, e3, e4]
    rfl
  rw [es] at e
  obtain ⟨M, le, s3, r3, c3, l3⟩ := run_goes w os
  have r := topRun_mono (20000 - M) _ _ _ _ r3
  rw [show M + (20000 - M) = 20000 by omega] at r
  have hs : (Sa w.params os).abs.heap.objs.size = 28 := absHeap_size _ _ _
  have t : topFrom treeTable pw w 20000 (Sa w.params os).abs = some s3 := by
    unfold topFrom
    rw [k_ns, k_ann, hs, r]
    show (match staticsOk (importedModules pw.main.body) (Sa w.params os).abs.heap s3.heap && namesBound pw s3.heap && gensDone s3 && laidKept (Sa w.params os).abs.heap s3.heap with | true => some s3 | false => none) = _
    rw [c3]
  unfold openEnds
  rw [e]
  show (topFrom treeTable pw w 20000 _).map _ = _
  rw [t]
  exact congrArg some l3
end Mine
end

section
open PySem PySem.W PyProof.Rows PySem.Calls
set_option Elab.async false
namespace Mine
section
variable {prog : Program} {w : World} {A : Around} {E : Value → Shared → Prop} {s : Shared} {Q : Value → Shared → Prop} {mg mb : Str → Option Value}

theorem check_spec {c : Nat} {t : Tok} (G : Gl mg mb s.heap) (R : Rm A 4) (hc : c < 256)
    (h : ∀ h' tk, Kp s.heap h' → Q (.bool (txt [c] != txt (piece c))) { s with heap := h', toks := tk }) :
    wpAny (model prog w) A (call (.ref 59) [.int c t]) Q E s := by
  refine call_def (n := 3) (binds := [(Str.ofString "octet", .int c t)]) R G.f_check G.lim (fun pm cd => BindsTo.of_eq rfl) (by decide +kernel) (locs (by rfl)) (fun h₁ env tk e1 e2 e3 _ _ hn hk _ => ?_) (by rfl) (by rfl) (by rfl)
  have G₁ := G.keeps hk
  have hkd : env.scope.kind = .function := by rw [e1]; rfl
  have k1 : env.kindOf (Str.ofString "octet") = some .local := by unfold Env.kindOf; rw [e1]; decide +kernel
  have k2 : env.kindOf (Str.ofString "chr") = some .globalImplicit := by unfold Env.kindOf; rw [e1]; decide +kernel
  have k3 : env.kindOf (Str.ofString "_QUOPRI_HEADER_MAP") = some .globalImplicit := by unfold Env.kindOf; rw [e1]; decide +kernel
  have hg : h₁.Ns env.globals mg := e2 ▸ G₁.g
  have hb : h₁.Ns env.builtins mb := e3 ▸ G₁.b
  refine wpAny_execs_cons (wpAny_Return_some (wpAny_Compare1 ?_))
  refine Call_Name1 (nm_blt hg G₁.n_chr hb G₁.b_chr ?_ hkd k2)
  refine callWith_builtin1 (nm_loc hn (by rfl) ?_ hkd k1)
  refine chr_of_range (by omega) (by omega) ?_
  refine Subscript_ (nm_glob hg G₁.v_map ?_ hkd k3)
  refine nm_loc hn (by rfl) ?_ hkd k1
  obtain ⟨vs, hl, _, hv⟩ := G₁.map
  obtain ⟨t', ht⟩ := hv c hc
  refine item_list hl (by omega) (by omega) (by simpa using ht) ?_
  refine PyProof.Rows.ne_str ?_
  exact h h₁ _ hk
end
end Mine
end

section
open PySem PySem.W PyProof.Rows PySem.Calls PySem.NumText
set_option Elab.async false
set_option maxRecDepth 100000
namespace Mine

theorem read16 : ∀ c : Nat, c < 256 → (int_private% "readNumeral") 0 16 [hexd (c / 16), hexd (c % 16)] = (int_private% "Numeral.value") (c : Int) := by
  intro c hc
  rw [readNumeral_eq]
  have : ∀ c : Fin 256, (NumText.sign ([hexd (c.1 / 16), hexd (c.1 % 16)].dropWhile blank)).1 = false ∧ based 16 (NumText.sign ([hexd (c.1 / 16), hexd (c.1 % 16)].dropWhile blank)).2 = (16, false, [hexd (c.1 / 16), hexd (c.1 % 16)]) ∧
      (digits? 16 (([hexd (c.1 / 16), hexd (c.1 % 16)].reverse.dropWhile blank).reverse)) = some #[c.1 / 16, c.1 % 16] := by decide +kernel
  obtain ⟨h1, h2, h3⟩ := this ⟨c, hc⟩
  simp only at h1 h2 h3
  rw [h1, h2]
  simp only
  rw [h3]
  unfold judge
  simp
  omega

theorem hexd_lt : ∀ c : Fin 256, hexd (c.1 / 16) ≠ 0 ∧ hexd (c.1 % 16) ≠ 0 ∧ hexd (c.1 / 16) < 128 ∧ hexd (c.1 % 16) < 128 := by decide +kernel

theorem wp_text16 {M : Model} {A : Around} {E : Value → Shared → Prop} {s : Shared} {Q : Value → Shared → Prop} {v : Value} {c : Nat} (hc : c < 256)
    (h : Q (.int c s.toks) { s with toks := s.toks + 1 }) :
    wpAny M A ((int_private% "intFromText") v [hexd (c / 16), hexd (c % 16)] 16) Q E s := by
  obtain ⟨hp, g, d, tk, os⟩ := s
  obtain ⟨h1, h2, _, _⟩ := hexd_lt ⟨c, hc⟩
  simp only at h1 h2
  have ht : ([hexd (c / 16), hexd (c % 16)].takeWhile (· != 0)) = [hexd (c / 16), hexd (c % 16)] := by simp [h1, h2]
  have hr := read16 c hc
  wp_walk
  rw [ht, hr]
  wp_walk
  exact h

theorem wp_text16' {M : Model} {A : Around} {E : Value → Shared → Prop} {s : Shared} {Q : Value → Shared → Prop} {v : Value} {c : Nat} {text : List Nat} (he : text = [hexd (c / 16), hexd (c % 16)]) (hc : c < 256)
    (h : Q (.int c s.toks) { s with toks := s.toks + 1 }) : wpAny M A ((int_private% "intFromText") v text 16) Q E s := by subst he; exact wp_text16 hc h

set_option maxHeartbeats 4000000 in
theorem gives_int16 {c : Nat} (hc : c < 256) {x : Str} (hx : x = txt [hexd (c / 16), hexd (c % 16)]) {u v : Tok} : Gives (Builtin.«int.__new__» ⟨[.type "int", .str x u, .int 16 v], []⟩) (.int c) :=
  .of_wp fun M A E s Q h => by
    have ha : (if x.cps.all (fun x => decide (x < 128)) = true then x.cps.toList else Unicode.numberText x.cps.toList) = [hexd (c / 16), hexd (c % 16)] := by
      obtain ⟨_, _, h3, h4⟩ := hexd_lt ⟨c, hc⟩
      simp only at h3 h4
      subst hx
      simp [txt, h3, h4]
    obtain ⟨hp, g, d, tk, os⟩ := s
    have f1 := F.conv_sub_int
    have f2 := F.madeHere_int
    have f6 : typeOf (.str x u) = pure (.type "str") := rfl
    clear hx
    repeat (any_goals (first
      | assumption
      | ((with_reducible show wpAny _ _ ((int_private% "intFromText") _ _ _) _ _ _); refine wp_text16' ha hc ?_)
      | wp_step))
    exact ⟨_, rfl, h⟩

section
variable {prog : Program} {w : World} {A : Around} {E : Value → Shared → Prop} {s : Shared} {Q : Value → Shared → Prop} {mg mb : Str → Option Value}
theorem typeCall_int_2 (a b : Value) : checkTypeCall "int" ⟨[a, b], []⟩ = pure () := by kernel_rfl
theorem newCall_int_2 (a b : Value) : checkBuiltinCall "int.__new__" ⟨[.type "int", a, b], []⟩ = pure () := by kernel_rfl
theorem args_init_3 (o a b : Value) : argsOk "object.__init__" ⟨[o, a, b], []⟩ := by unfold argsOk; kernel_rfl
theorem call_int16 {c : Nat} (hc : c < 256) {x : Str} (hx : x = txt [hexd (c / 16), hexd (c % 16)]) {u v : Tok} (h : Q (.int c s.toks) { s with toks := s.toks + 1 }) :
    wpAny (model prog w) A (call (.type "int") [.str x u, .int 16 v]) Q E s :=
  callType_new F.called_int F.newNe_int (typeCall_int_2 _ _) (newCall_int_2 _ _) (fun o => args_init_3 o _ _) F.entry_int_new (gives_int16 hc hx).meets (show (Made.int (c : Int)).post _ s from ⟨rfl, h⟩)

end
end Mine
end

section
open PySem PySem.W PyProof.Rows PySem.Calls PySem.NumText
set_option Elab.async false
set_option maxRecDepth 100000
namespace Mine
section
variable {prog : Program} {w : World} {A : Around} {E : Value → Shared → Prop} {s : Shared} {Q : Value → Shared → Prop} {mg mb : Str → Option Value}
theorem callWith_type2 {pos : Pos} {T : String} {t₁ t₂ : Sem Value} {M : Model} (h : wpAny M A t₁ (fun v s₁ => wpAny M A t₂ (fun v' s₂ => wpAny M A (call (.type T) [v, v']) Q E s₂) E s₁) E s) :
    wpAny M A (callWith pos (.type T) [] [(false, t₁), (false, t₂)] []) Q E s :=
  PySem.callWith_type rfl (Calls.evalArgs_plain (Calls.spliced_cons (wpAny_mono h (fun _ _ h₁ => Calls.spliced_cons (wpAny_mono h₁ (fun _ _ h₂ => Calls.spliced_nil h₂) fun _ _ e => e)) fun _ _ e => e)))

theorem unquote_spec {c : Nat} {t : Tok} (G : Gl mg mb s.heap) (R : Rm A 4) (hc : c < 256)
    (h : ∀ h' tk t', Kp s.heap h' → Q (.str (txt [c]) t') { s with heap := h', toks := tk }) :
    wpAny (model prog w) A (call (.ref 66) [.str (txt [61, hexd (c / 16), hexd (c % 16)]) t]) Q E s := by
  refine call_def (n := 3) (binds := [(Str.ofString "s", .str (txt [61, hexd (c / 16), hexd (c % 16)]) t)]) R G.f_unquote G.lim (fun pm cd => BindsTo.of_eq rfl) (by decide +kernel) (locs (by rfl)) (fun h₁ env tk e1 e2 e3 _ _ hn hk _ => ?_) (by rfl) (by rfl) (by rfl)
  have G₁ := G.keeps hk
  have hkd : env.scope.kind = .function := by rw [e1]; rfl
  have k1 : env.kindOf (Str.ofString "s") = some .local := by unfold Env.kindOf; rw [e1]; decide +kernel
  have k2 : env.kindOf (Str.ofString "chr") = some .globalImplicit := by unfold Env.kindOf; rw [e1]; decide +kernel
  have k3 : env.kindOf (Str.ofString "int") = some .globalImplicit := by unfold Env.kindOf; rw [e1]; decide +kernel
  have hg : h₁.Ns env.globals mg := e2 ▸ G₁.g
  have hb : h₁.Ns env.builtins mb := e3 ▸ G₁.b
  refine wpAny_execs_cons (wpAny_Return_some ?_)
  refine Call_Name1 (nm_blt hg G₁.n_chr hb G₁.b_chr ?_ hkd k2)
  refine callWith_builtin1 ?_
  refine Call_Name2 (nm_blt hg G₁.n_int hb G₁.b_int ?_ hkd k3)
  refine callWith_type2 ?_
  refine wpAny_Subscript_str_slice (nm_loc hn (by rfl) ?_ hkd k1)
  refine evalPart_some_step (wpAny_Constant_int ?_)
  refine evalPart_some_step (wpAny_Constant_int ?_)
  refine ⟨_, _, some (1, tk), some (3, tk + 1), rfl, rfl, rfl, ?_⟩
  have e : ∀ (a b c : Nat) (t t1 t2 : Tok), sliceMade (txt [a, b, c]) t (some (1, t1)) (some (3, t2)) none = .str (txt [b, c]) := fun a b c t t1 t2 => by with_unfolding_all rfl
  rw [e]
  refine ⟨(by show 2 ≤ sizeLine; rw [sizeLine_eq]; omega), ?_⟩
  refine wpAny_Constant_int ?_
  refine call_int16 hc rfl ?_
  refine chr_of_range (by omega) (by omega) ?_
  exact h _ _ _ fun b o e => Heap.get?_push_of_some _ (hk b o e)
end
end Mine
end

section
open PySem PySem.W PyProof.Rows PySem.Calls
open PySem.Builtin._codecs
set_option Elab.async false
set_option maxRecDepth 100000
namespace Mine

theorem forIn_pure {α σ : Type} (f : α → σ → Sem (ForInStep σ)) (st : Nat → σ) (n : Nat) (hf : ∀ i x, i < n → f x (st i) = pure (.yield (st (i + 1)))) :
    ∀ (l : List α) (i : Nat), i + l.length = n → forIn l (st i) f = pure (st n)
  | [], i, h => by
    have : i = n := by simpa using h
    rw [List.forIn_nil, this]
  | x :: l, i, h => by
    have h1 : i < n := by simp only [List.length_cons] at h; omega
    have h2 : i + 1 + l.length = n := by simp only [List.length_cons] at h; omega
    rw [List.forIn_cons, hf i x h1]
    show (pure (ForInStep.yield (st (i + 1))) >>= _ : Sem σ) = _
    rw [pure_bind]
    exact forIn_pure f st n hf l (i + 1) h2

def latSt (b : Array UInt8) (i : Nat) : Nat × Array Nat × Faults := (i, ((b.toList.take i).map (·.toNat)).toArray, { })
theorem latin1_run (id : String) (b : Array UInt8) (h : b.size ≤ sizeLine) : runDecoder id latin1Decoder none true b 0 [] = pure (b.map (·.toNat), b.size) := by
  have H : ∀ f : Nat → Nat × Array Nat × Faults → Sem (ForInStep (Nat × Array Nat × Faults)), (∀ i x, i < b.size → f x (latSt b i) = pure (.yield (latSt b (i + 1)))) →
      (forIn (List.range' 0 ((b.size - 0 + 1 - 1) / 1)) (0, #[], { }) f >>= fun s => pure (s.2.1, s.1) : Sem (Array Nat × Nat)) = pure (b.map (·.toNat), b.size) := by
    intro f hf
    have key := forIn_pure f (latSt b) b.size hf (List.range' 0 ((b.size - 0 + 1 - 1) / 1)) 0 (by simp)
    have e0 : latSt b 0 = (0, #[], { }) := rfl
    rw [e0] at key
    rw [key, pure_bind]
    have e1 : ((b.toList.take b.size).map (·.toNat)).toArray = b.map (·.toNat) := by
      have : b.toList.take b.size = b.toList := by rw [← Array.length_toList, List.take_length]
      rw [this]
      apply Array.ext'
      rw [Array.toList_map]
    simp only [latSt, e1]
  unfold runDecoder
  simp only [Std.Legacy.Range.forIn_eq_forIn_range', Std.Legacy.Range.size]
  refine H _ (fun i x hi => ?_)
  have h1 : ¬ ((((b.toList.take i).map (·.toNat)).toArray.size) > sizeLine) := by
    simp only [List.size_toArray, List.length_map, List.length_take]
    omega
  have h2 : ¬ (i ≥ b.size) := by omega
  unfold latSt
  dsimp only
  rw [if_neg h1, if_neg h2]
  show pure (ForInStep.yield (i + 1, _, _)) = _
  have h3 : (((b.toList.take i).map (·.toNat)).toArray ++ [(b.getD i 0).toNat].toArray) = ((b.toList.take (i + 1)).map (·.toNat)).toArray := by
    have hg : b.getD i 0 = b.toList[i]'(by simpa using hi) := by simp [Array.getD, hi]
    rw [hg, List.append_toArray, List.take_add_one, List.map_append]
    simp [hi]
  rw [h3]

section
variable {b : Array UInt8} {c : UInt8} {cs : List UInt8} {t t1 : Tok}
theorem road_latin {id : String} : decodeRoad id b (Str.ofString "latin1") none [] = (runDecoder id latin1Decoder none true b 0 [] >>= fun r => mkStr ⟨r.1⟩) := by kernel_rfl
theorem meets_latin_text {t1 t2 : Tok} {d : Str} (hb : b.size ≤ sizeLine) :
    Meets (Builtin.«_codecs.decode.text» ⟨[.bytes b t, .str (Str.ofString "latin1") t1, .none, .str d t2], []⟩) (fun _ R s => R (.ok (.ret (.str ⟨b.map (·.toNat)⟩ s.toks))) { s with toks := s.toks + 1 }) := by
  refine .of_wp fun prog w A R s h => ?_
  show wpAny _ _ (Builtin.Bytes.bytesLike _ (.bytes b t) >>= fun r => _) _ _ s
  refine wpAny_bind (wpAny_of_eq KBd.like_eq ?_)
  refine wpAny_bind (wpAny_of_eq KBd.held_eq ?_)
  show wpAny _ _ (decodeRoad _ b (Str.ofString "latin1") none [] >>= fun v => _) _ _ s
  rw [road_latin, latin1_run _ _ hb]
  refine wpAny_bind (wpAny_bind (wpAny_pure ?_))
  exact wpAny_mkStr (wpAny_pure ⟨_, rfl, h⟩) (by show (b.map (·.toNat)).size ≤ sizeLine; rw [Array.size_map]; exact hb)
theorem latin_entry : Builtin.«bytes.decode» ⟨[.bytes (c :: cs).toArray t, .str (Str.ofString "latin1") t1], []⟩ = (mkStr (Str.ofString "utf-8") >>= fun _ => mkStr (Str.ofString "latin1") >>= fun e => mkStr (Str.ofString "bytes.decode") >>= fun d =>
    call (.builtin "_codecs.decode.text") [.bytes (c :: cs).toArray t, e, .none, d] >>= fun v => ret v) := by kernel_rfl
theorem args_decode2 (a b : Value) : argsOk "bytes.decode" ⟨[a, b], []⟩ := by unfold argsOk; kernel_rfl
theorem meets_latin (hb : (c :: cs).length ≤ sizeLine) :
    Meets (Builtin.«bytes.decode» ⟨[.bytes (c :: cs).toArray t, .str (Str.ofString "latin1") t1], []⟩) (fun _ R s => ∀ t' k, R (.ok (.ret (.str ⟨(c :: cs).toArray.map (·.toNat)⟩ t'))) { s with toks := k }) := by
  refine .of_wp fun prog w A R s h => ?_
  rw [latin_entry]
  refine wpAny_bind (wpAny_mkStr ?_ (by decide))
  refine wpAny_bind (wpAny_mkStr ?_ (by decide))
  refine wpAny_bind (wpAny_mkStr ?_ (by decide))
  exact wpAny_bind (call_function_meets KBd.kind_text KBd.plain_text KBd.entry_text (KBd.args_text _ _ _ _) (meets_latin_text (by simpa using hb)) (wpAny_pure ⟨_, rfl, h _ _⟩))
end
section
variable {prog : Program} {w : World} {A : Around} {E : Value → Shared → Prop} {s : Shared} {c : UInt8} {cs : List UInt8} {t t1 : Tok} {Q : Value → Shared → Prop}
theorem call_latin (hb : (c :: cs).length ≤ sizeLine) (h : ∀ t' k, Q (.str ⟨(c :: cs).toArray.map (·.toNat)⟩ t') { s with toks := k }) :
    wpAny (model prog w) A (call (.builtin "bytes.decode") [.bytes (c :: cs).toArray t, .str (Str.ofString "latin1") t1]) Q E s :=
  call_meets FB.slot_bytes_decode (typeIs_bytes _ _ _) FB.entry_bytes_decode (args_decode2 _ _) (meets_latin hb) h
end
end Mine
end

section
open PySem PySem.W PyProof.Rows PySem.Calls
open PySem.Builtin PySem.Builtin.Str
set_option Elab.async false
set_option maxRecDepth 100000
namespace Mine
section
variable {prog : Program} {w : World} {A : Around} {E : Value → Shared → Prop} {s : Shared}
theorem lookup_wp {l : Addr} {vs : Array Value} {c : Nat} {x : Str} {t : Tok} {Q : Mapped → Shared → Prop} (hl : s.heap.IsList l vs) (hv : vs[c]? = some (.str x t)) (hc : (c : Int) < 2 ^ 63)
    (h : Q (.text x) { s with toks := s.toks + 1 }) : wpAny (model prog w) A (tableLookup (.ref l) c) Q E s := by
  unfold tableLookup
  refine wpAny_bind (wpAny_attempt ?_)
  refine wpAny_bind (wpAny_mkInt ?_)
  refine wpAny_getItem_list hl (by omega) hc (by simpa using hv) ?_
  dsimp only
  refine wpAny_bind (wpAny_of_eq (a := none) rfl ?_)
  dsimp only
  refine wpAny_bind (wpAny_of_eq (a := some x) rfl ?_)
  exact wpAny_pure h
end

theorem lookup_mem {α β : Type} [BEq α] [LawfulBEq α] {c : α} {b : β} : ∀ {l : List (α × β)}, l.lookup c = some b → (c, b) ∈ l
  | [], h => by simp at h
  | (x, y) :: l, h => by
    rw [List.lookup_cons] at h
    by_cases e : c = x
    · subst e
      simp at h
      rw [h]; exact List.mem_cons_self
    · have : (c == x) = false := by simpa using e
      rw [this] at h
      exact List.mem_cons_of_mem _ (lookup_mem h)

theorem piece_len (c : Nat) : 1 ≤ (piece c).length ∧ (piece c).length ≤ 3 := by
  unfold piece
  split
  · simp
  · split <;> simp
theorem pieces_le : ∀ l : List Nat, (l.map fun c => (piece c).length).sum ≤ l.length * 3
  | [] => by simp
  | c :: l => by
    have := pieces_le l
    have := (piece_len c).2
    simp only [List.map_cons, List.sum_cons, List.length_cons]
    omega
theorem glue_pieces : ∀ (l : List Nat) (acc : Array Nat), (l.map fun c => txt (piece c)).foldl (fun acc p => acc ++ p.cps) acc = acc ++ (l.flatMap piece).toArray
  | [], acc => by simp
  | c :: l, acc => by
    rw [List.map_cons, List.foldl_cons, glue_pieces l, List.flatMap_cons]
    simp [txt, ← List.append_toArray]

def TrI (s : Shared) (W rest : List Nat) (st : List Str × Nat × Bool × List (Nat × Option Nat) × Bool) (s' : Shared) : Prop :=
  ∃ done, W = done ++ rest ∧ st.1 = (done.map fun c => txt (piece c)).reverse ∧ st.2.1 = (done.map fun c => (piece c).length).sum ∧ (∀ e ∈ st.2.2.2.1, ∃ d, e.2 = some d ∧ piece e.1 = [d]) ∧ st.2.2.2.2 = false ∧
    ∃ tk, s' = { s with toks := tk }

theorem TrI.step {s : Shared} {W rest done : List Nat} {c : Nat} {fast : Bool} {known : List (Nat × Option Nat)} {tk : Nat} (hW : W = done ++ c :: rest) (hk : ∀ e ∈ known, ∃ d, e.2 = some d ∧ piece e.1 = [d]) {x : Str} {n : Nat} (hx : x = txt (piece c))
    (hn : n = (piece c).length) : TrI s W rest (x :: (done.map fun c => txt (piece c)).reverse, (done.map fun c => (piece c).length).sum + n, fast, known, false) { s with toks := tk } := by
  subst hx hn
  refine ⟨done ++ [c], by simp [hW], by simp, by simp, hk, rfl, tk, rfl⟩

section
variable {prog : Program} {w : World} {A : Around} {E : Value → Shared → Prop} {s : Shared}
theorem translate_wp {W : List Nat} {t : Tok} {l : Addr} {vs : Array Value} {Q : Fin → Shared → Prop} (hl : s.heap.IsList l vs) (hv : ∀ i, i < 256 → ∃ t, vs[i]? = some (.str (txt (piece i)) t)) (hW : ∀ c ∈ W, c < 256)
    (hne : W ≠ []) (hlen : W.length * 3 ≤ 1048576) (h : ∀ tk t', Q (.done (.ret (.str (txt (W.flatMap piece)) t'))) { s with toks := tk }) :
    wpAny (model prog w) A (Builtin.«str.translate» ⟨[.str (txt W) t, .ref l], []⟩) Q E s := by
  unfold Builtin.«str.translate»
  refine wpAny_bind (wpAny_of_eq (a := (.str (txt W) t, txt W, .ref l)) rfl ?_)
  dsimp only
  have hne' : ((txt W).length == 0) = false := by
    have : W.length ≠ 0 := fun e => hne (List.eq_nil_of_length_eq_zero e)
    show (W.toArray.size == 0) = false
    simpa using hne
  rw [hne']
  simp only [Bool.false_eq_true, if_false]
  have tl : ∀ done : List Nat, done.length ≤ W.length → tooLong (done.map fun c => (piece c).length).sum = false := fun done hd => by
    have := pieces_le done
    unfold tooLong
    rw [sizeLine_eq]
    exact decide_eq_false (by omega)
  refine wpAny_bind (m := forIn (txt W).cps _ _) ?_
  rw [show (txt W).cps = W.toArray from rfl, List.forIn_toArray]
  refine wpAny_forIn_list _ (TrI s W) _ ?_ ?_ W _ ⟨[], rfl, rfl, rfl, by simp, rfl, s.toks, rfl⟩
  · rintro c rest ⟨pieces, total, fast, known, ad⟩ s' ⟨done, hWd, h1, h2, hk, h3, tk, rfl⟩
    dsimp only at h1 h2 hk h3
    subst h1 h2 h3
    have hc : c < 256 := hW c (by rw [hWd]; simp)
    obtain ⟨tc, hvc⟩ := hv c hc
    have htl := tl done (by rw [hWd]; simp)
    dsimp only
    rw [if_neg (by rw [htl]; exact Bool.false_ne_true)]
    cases fast with
    | false =>
      simp only [Bool.false_eq_true, if_false]
      refine wpAny_bind (lookup_wp hl hvc (by omega) ?_)
      exact wpAny_pure (TrI.step hWd hk rfl rfl)
    | true =>
      simp only [if_true]
      cases hlk : known.lookup c with
      | some a =>
        obtain ⟨d, ha, hp⟩ := hk _ (lookup_mem hlk)
        dsimp only at ha hp
        subst ha
        refine wpAny_bind (wpAny_pure ?_)
        dsimp only
        exact wpAny_pure (TrI.step hWd hk (by rw [hp]; rfl) (by rw [hp]; rfl))
      | none =>
        dsimp only
        refine wpAny_bind (lookup_wp hl hvc (by omega) ?_)
        dsimp only
        by_cases hsm : ((txt (piece c)).length == 1 && (txt (piece c)).cps.all fun x => decide (x < 128)) = true
        · rw [if_pos hsm]
          dsimp only
          obtain ⟨d, hp⟩ : ∃ d, piece c = [d] := by
            have : (piece c).length = 1 := by
              have := (Bool.and_eq_true_iff.mp hsm).1
              simpa [txt, Str.length] using this
            exact List.length_eq_one_iff.mp this
          have hd : (txt (piece c)).cps[0]? = some d := by rw [hp]; rfl
          rw [hd]
          refine wpAny_bind (wpAny_pure ?_)
          dsimp only
          refine wpAny_pure (TrI.step hWd ?_ (by rw [hp]; rfl) (by rw [hp]; rfl))
          intro e he
          rcases List.mem_cons.mp he with rfl | he
          · exact ⟨d, rfl, hp⟩
          · exact hk e he
        · rw [if_neg hsm]
          dsimp only
          refine wpAny_bind (wpAny_pure ?_)
          dsimp only
          refine wpAny_bind (wpAny_rule ?_)
          simp only [Bool.false_eq_true, if_false]
          refine wpAny_bind (lookup_wp hl hvc (by omega) ?_)
          exact wpAny_pure (TrI.step hWd hk rfl rfl)
  · rintro ⟨pieces, total, fast, known, ad⟩ s' ⟨done, hWd, h1, h2, hk, h3, tk, rfl⟩
    dsimp only at h1 h2 ⊢
    subst h1 h2
    rw [List.append_nil] at hWd
    subst hWd
    rw [if_neg (by rw [tl _ (Nat.le_refl _)]; exact Bool.false_ne_true)]
    rw [List.reverse_reverse, glue_pieces, Array.empty_append]
    have hsz : (txt (W.flatMap piece)).length ≤ sizeLine := by
      have h1 := pieces_le W
      have : (W.flatMap piece).length = (W.map fun c => (piece c).length).sum := by
        rw [List.length_flatMap]
      show (W.flatMap piece).toArray.size ≤ _
      rw [List.size_toArray, this, sizeLine_eq]
      omega
    exact wpAny_bind (wpAny_mkStr (wpAny_pure (h _ _)) hsz)
theorem call_translate {W : List Nat} {t : Tok} {l : Addr} {vs : Array Value} {Q : Value → Shared → Prop} (hl : s.heap.IsList l vs) (hv : ∀ i, i < 256 → ∃ t, vs[i]? = some (.str (txt (piece i)) t)) (hW : ∀ c ∈ W, c < 256)
    (hne : W ≠ []) (hlen : W.length * 3 ≤ 1048576) (h : ∀ tk t', Q (.str (txt (W.flatMap piece)) t') { s with toks := tk }) :
    wpAny (model prog w) A (call (.builtin "str.translate") [.str (txt W) t, .ref l]) Q E s :=
  wpAny_call_entry F.slot_str_translate (typeIs_str _ _ _) F.entry_str_translate (translate_wp hl hv hW hne hlen fun tk t' => ⟨_, rfl, h tk t'⟩) (F.args_str_translate_2 _ _)
end
end Mine
end

section
open PySem PySem.W PyProof.Rows PySem.Calls
set_option Elab.async false
set_option maxRecDepth 100000
namespace Mine
def byts (W : List Nat) : Array UInt8 := (W.map Nat.toUInt8).toArray
theorem byts_back {W : List Nat} (h : ∀ c ∈ W, c < 256) : (byts W).map (·.toNat) = W.toArray := by
  apply Array.ext'
  rw [Array.toList_map]
  show (W.map Nat.toUInt8).map (·.toNat) = W
  rw [List.map_map]
  conv => rhs; rw [← List.map_id W]
  refine List.map_congr_left fun c hc => ?_
  have := h c hc
  show (Nat.toUInt8 c).toNat = c
  rw [Nat.toUInt8, UInt8.toNat_ofNat']
  omega
def wrap (n e : Str) : Str := Str.ofString "=?" ++ n ++ Str.ofString "?q?" ++ e ++ Str.ofString "?="
def enc (W : List Nat) : Str := txt (W.flatMap piece)
def encName (n : Str) (W : List Nat) : Str := wrap n (enc W)

theorem enc_len (W : List Nat) : (enc W).length = (W.map fun c => (piece c).length).sum := by
  show (W.flatMap piece).toArray.size = _
  rw [List.size_toArray, List.length_flatMap]

section
variable {prog : Program} {w : World} {A : Around} {E : Value → Shared → Prop} {s : Shared} {Q : Value → Shared → Prop} {mg mb : Str → Option Value}
theorem meth1 {T : String} {name : Str} {id : String} {ov : Value} {pos : Pos} {t : Sem Value} (pa : PlainAttrs T) (slot : Slot T name id) (ty : typeOf (.builtin id) = pure (.type "method_descriptor")) (hT : s.TypeIs ov T)
    (hd : ∀ a, ov = .ref a → ∃ ob, s.heap.get? a = some ob ∧ ob.dict = none) (h : wpAny (model prog w) A t (fun v s₁ => wpAny (model prog w) A (call (.builtin id) [ov, v]) Q E s₁) E s) :
    MethodOnS prog w A E name ov pos [(false, t)] Q s :=
  ⟨T, id, pa, slot, ty, hT, hd, Calls.callWith_builtin rfl (Calls.evalArgs_plain (Calls.spliced_cons (wpAny_mono h (fun _ _ h₁ => Calls.spliced_nil h₁) fun _ _ e => e)))⟩

theorem encode_spec {W : List Nat} {n : Str} {t t1 : Tok} (G : Gl mg mb s.heap) (R : Rm A 4) (hW : ∀ c ∈ W, c < 256) (hne : W ≠ []) (hlen : W.length ≤ 1000) (hn : n.length ≤ 1000) 
    (h : ∀ h' tk t', Kp s.heap h' → Q (.str (encName n W) t') { s with heap := h', toks := tk }) :
    wpAny (model prog w) A (call (.ref 74) [.bytes (byts W) t, .str n t1]) Q E s := by
  refine call_def (n := 3) (binds := [(Str.ofString "header_bytes", .bytes (byts W) t), (Str.ofString "charset", .str n t1)]) R G.f_encode G.lim (fun pm cd => ?_) (by decide +kernel) (locs (by rfl)) (fun h₁ env tk e1 e2 e3 _ hL hn0 hk _ => ?_) (by rfl) (by rfl) (by rfl)
  · obtain ⟨o, td, nd, ho, hd⟩ := G.dflt
    exact BindsTo.of_defaults rfl ho hd rfl rfl
  have G₁ := G.keeps hk
  have hkd : env.scope.kind = .function := by rw [e1]; rfl
  have k1 : env.kindOf (Str.ofString "header_bytes") = some .local := by unfold Env.kindOf; rw [e1]; decide +kernel
  have k2 : env.kindOf (Str.ofString "charset") = some .local := by unfold Env.kindOf; rw [e1]; decide +kernel
  have k3 : env.kindOf (Str.ofString "encoded") = some .local := by unfold Env.kindOf; rw [e1]; decide +kernel
  have k4 : env.kindOf (Str.ofString "_QUOPRI_HEADER_MAP") = some .globalImplicit := by unfold Env.kindOf; rw [e1]; decide +kernel
  have hg : h₁.Ns env.globals mg := e2 ▸ G₁.g
  refine wpAny_execs_cons (wpAny_If (wpAny_isTrue_Not (wpAny_isTrue_value (nm_loc hn0 (by rfl) ?_ hkd k1))))
  have hsz : (byts W).size = W.length := by simp [byts]
  refine truthy_bytes (by rw [hsz]; omega) ?_
  have hnz : (((byts W).size : Int) != 0) = true := by
    have : W.length ≠ 0 := fun e => hne (List.eq_nil_of_length_eq_zero e)
    rw [hsz]
    simpa using hne
  rw [hnz]
  simp only [Bool.not_true, Bool.false_eq_true, if_false]
  refine wpAny_execs_nil ?_
  dsimp only
  refine wpAny_execs_cons (wpAny_Assign_Name ?_ (by rfl))
  refine Call_method1 (by rfl) (by rfl) (by rfl) ?_
  refine Call_method1 (by rfl) (by rfl) (by rfl) ?_
  refine nm_loc hn0 (by rfl) ?_ hkd k1
  refine meth1 FB.plainAttrs_bytes FB.slot_bytes_decode FB.type_bytes_decode (typeIs_bytes _ _ _) (fun _ e => nomatch e) ?_
  refine wpAny_Constant_str ?_
  obtain ⟨c0, W', rfl⟩ : ∃ c W', W = c :: W' := by cases W with | nil => exact absurd rfl hne | cons c W' => exact ⟨c, W', rfl⟩
  refine call_latin (c := c0.toUInt8) (cs := W'.map Nat.toUInt8) (by rw [sizeLine_eq]; simp only [List.length_cons, List.length_map] at hlen ⊢; omega) ?_
  intro t' k
  have hback := byts_back hW
  unfold byts at hback
  rw [List.map_cons] at hback
  rw [hback]
  refine meth1 F.plainAttrs_str F.slot_str_translate F.type_str_translate (typeIs_str _ _ _) (fun _ e => nomatch e) ?_
  refine nm_glob hg G₁.v_map ?_ hkd k4
  obtain ⟨vs, hl, _, hv⟩ := G₁.map
  refine call_translate (W := c0 :: W') hl hv hW (by simp) (by omega) ?_
  intro tk' t''
  refine st_loc hn0 hkd k3 (fun h₂ hn2 hs2 => ?_)
  have hk2 : Kp s.heap h₂ := hk.st hL hs2
  have l1 : (Str.ofString "=?").length = 2 := by decide +kernel
  have l2 : (Str.ofString "?q?").length = 3 := by decide +kernel
  have l3 : (Str.ofString "?=").length = 2 := by decide +kernel
  have le : (enc (c0 :: W')).length ≤ 3000 := by
    rw [enc_len]
    have := pieces_le (c0 :: W')
    omega
  refine wpAny_execs_cons (wpAny_Return_some (wpAny_JoinedStr ?_))
  refine Joins_cons (wpAny_Constant_str ⟨_, _, rfl, by rw [KT.empty_app, l1, sizeLine_eq]; omega, ?_⟩)
  rw [KT.empty_app]
  refine Joins_cons (wpAny_FormattedValue_s (nm_loc hn2 (by rfl) (SB.convS_str (fun t' k => SB.field_str (fun t'' k' => ⟨_, _, rfl, ?_, ?_⟩) ?_) ?_) hkd k2))
  · rw [Str.length_append, sizeLine_eq]; omega
  · refine Joins_cons (wpAny_Constant_str ⟨_, _, rfl, by rw [Str.length_append, Str.length_append, l1, l2, sizeLine_eq]; omega, ?_⟩)
    refine Joins_cons (wpAny_FormattedValue_s (nm_loc hn2 (by rfl) (SB.convS_str (fun t' k => SB.field_str (fun t'' k' => ⟨_, _, rfl, ?_, ?_⟩) ?_) ?_) hkd k3))
    · simp only [Str.length_append]; rw [l1, l2, sizeLine_eq]; show _ + (enc (c0 :: W')).length ≤ _; omega
    · refine Joins_cons (wpAny_Constant_str ⟨_, _, rfl, by simp only [Str.length_append]; rw [l1, l2, l3, sizeLine_eq]; show _ + (enc (c0 :: W')).length + _ ≤ _; omega, ?_⟩)
      refine Joins_nil ⟨by simp only [Str.length_append]; rw [l1, l2, l3, sizeLine_eq]; show _ + (enc (c0 :: W')).length + _ ≤ _; omega, ?_⟩
      exact h _ _ _ hk2
    · rw [sizeLine_eq]; show (enc (c0 :: W')).length ≤ _; omega
    · rw [sizeLine_eq]; show (enc (c0 :: W')).length ≤ _; omega
  · rw [sizeLine_eq]; omega
  · rw [sizeLine_eq]; omega
end
end Mine
end

section
open PySem PySem.W PyProof.Rows PySem.Calls PySem.StrLaws
set_option Elab.async false
set_option maxRecDepth 100000
namespace Mine
def swap (c d : Nat) (l : List Nat) : List Nat := l.map fun k => if k = c then d else k
theorem swap_free {c d : Nat} {l : List Nat} (h : c ∉ l) : swap c d l = l := by
  unfold swap
  conv => rhs; rw [← List.map_id l]
  refine List.map_congr_left fun k hk => ?_
  have : k ≠ c := fun e => h (by rw [← e]; exact hk)
  rw [if_neg this]; rfl
theorem swap_join (c d : Nat) : ∀ parts : List Str, (∀ p ∈ parts, c ∉ p.cps.toList) → swap c d (Str.join ⟨#[c]⟩ parts).cps.toList = (Str.join ⟨#[d]⟩ parts).cps.toList
  | [], _ => rfl
  | [p], h => swap_free (h p (List.mem_singleton.mpr rfl))
  | p :: q :: r, h => by
    have ih := swap_join c d (q :: r) fun a ha => h a (List.mem_cons_of_mem _ ha)
    show swap c d (p ++ ⟨#[c]⟩ ++ Str.join ⟨#[c]⟩ (q :: r)).cps.toList = (p ++ ⟨#[d]⟩ ++ Str.join ⟨#[d]⟩ (q :: r)).cps.toList
    simp only [Str.cps_append, Array.toList_append]
    have ha : ∀ a b : List Nat, swap c d (a ++ b) = swap c d a ++ swap c d b := fun a b => List.map_append
    rw [ha, ha, ih, swap_free (h p (List.mem_cons_self ..))]
    have h1 : swap c d [c] = [d] := by simp [swap]
    show p.cps.toList ++ swap c d [c] ++ _ = _
    rw [h1]
theorem replace_swap (x : Str) (c d : Nat) : Txt.replace x ⟨#[c]⟩ ⟨#[d]⟩ = txt (swap c d x.cps.toList) := by
  have h : (Txt.replace x ⟨#[c]⟩ ⟨#[d]⟩).cps.toList = swap c d x.cps.toList := by
    rw [replace_one, ← swap_join c d _ (split_free x c), join_split]
  generalize Txt.replace x ⟨#[c]⟩ ⟨#[d]⟩ = r at h
  obtain ⟨⟨l⟩⟩ := r
  have e : l = _ := h
  rw [e]; rfl

/-- an octet as it stands behind the blanks' return -/
def piece' (c : Nat) : List Nat := if safe c || c == 32 then [c] else [61, hexd (c / 16), hexd (c % 16)]
theorem piece_swap : ∀ c : Fin 256, swap 95 32 (piece c.1) = piece' c.1 := by decide +kernel
theorem pieces_swap {W : List Nat} (h : ∀ c ∈ W, c < 256) : swap 95 32 (W.flatMap piece) = W.flatMap piece' := by
  induction W with
  | nil => rfl
  | cons c r ih =>
    rw [List.flatMap_cons, List.flatMap_cons]
    have ha : ∀ a b : List Nat, swap 95 32 (a ++ b) = swap 95 32 a ++ swap 95 32 b := fun a b => List.map_append
    rw [ha, ih fun x hx => h x (List.mem_cons_of_mem _ hx)]
    have := piece_swap ⟨c, h c List.mem_cons_self⟩
    simp only at this
    rw [this]
end Mine
end

section
open PySem PySem.W PyProof.Rows PySem.Calls
open PySem.Sre
set_option Elab.async false
set_option maxRecDepth 100000
namespace Mine

/-- the machine as it begins to try at place p -/
def tryAt (text : Array Nat) (p : Nat) (o : Bool) (sn : Sre.Seen) : M :=
  { code := rcode, text, lim := text.size, start := p, lastStart := text.size, pc := 9, pos := p, handed := p, outermost := o, marks := #[], frames := [{ wait := .nextStart, pc := 9, pos := p, outermost := o }], weight := 1, seen := sn }

theorem step_no {text : Array Nat} {p : Nat} {o : Bool} {sn : Sre.Seen} (hp : p < text.size) (hc : text.getD p 0 ≠ 61) : ∃ sn', M.runFor 2 (tryAt text p o sn) = tryAt text (p + 1) false sn' := by
  have e1 : (tryAt text p o sn).step = { tryAt text p o sn with answer := some false, seen := sn.add 16 } := by
    have h1 : ¬ (text.size ≤ p) := by omega
    have h2 : (text.getD p 0 == 61) = false := by simpa using hc
    show (tryAt text p o sn).exec = _
    unfold M.exec
    show (if p ≥ text.size then _ else match (Except.ok (text.getD p 0 == 61, sn.add 16) : Except String (Bool × Sre.Seen)) with | .error why => _ | .ok (false, seen) => _ | .ok (true, seen) => _) = _
    rw [if_neg h1, h2]
    rfl
  refine ⟨sn.add 16, ?_⟩
  show (if (tryAt text p o sn).outcome.isSome then _ else M.runFor 1 (tryAt text p o sn).step) = _
  rw [e1]
  show M.step { tryAt text p o sn with answer := some false, seen := sn.add 16 } = _
  show (if p < text.size then _ else _) = _
  rw [if_pos hp]
  rfl

theorem step_end {text : Array Nat} {p : Nat} {o : Bool} {sn : Sre.Seen} (hp : p = text.size) : ∃ m', M.runFor 3 (tryAt text p o sn) = m' ∧ (∃ x, m'.outcome = some x ∧ x matches .failed) := by
  subst hp
  refine ⟨_, rfl, ?_⟩
  have e1 : (tryAt text text.size o sn).step = { tryAt text text.size o sn with answer := some false, seen := sn.add 16 } := by
    show (tryAt text text.size o sn).exec = _
    unfold M.exec
    show (if text.size ≥ text.size then _ else _) = _
    rw [if_pos (Nat.le_refl _)]
    rfl
  show ∃ x, (M.runFor 2 (tryAt text text.size o sn).step).outcome = some x ∧ _
  rw [e1]
  have e2 : M.step { tryAt text text.size o sn with answer := some false, seen := sn.add 16 } = { tryAt text text.size o sn with answer := some false, seen := sn.add 16, frames := [], weight := 0 } := by
    show (if text.size < text.size then _ else _) = _
    rw [if_neg (Nat.lt_irrefl _)]
    rfl
  show ∃ x, (M.runFor 1 (M.step { tryAt text text.size o sn with answer := some false, seen := sn.add 16 })).outcome = some x ∧ _
  rw [e2]
  exact ⟨_, rfl, rfl⟩

theorem set_hexd : ∀ (d : Fin 16) , ∀ sn : Sre.Seen, Sre.accepts rcode 15 (hexd d.1) sn = .ok (true, sn.add 9) := by
  intro d sn
  have : ∀ d : Fin 16, (hexd d.1 < 256 && (rcode.getD (17 + (1 + hexd d.1 / 32)) 0).testBit (hexd d.1 % 32)) = true := by decide +kernel
  show (if (hexd d.1 < 256 && (rcode.getD (17 + (1 + hexd d.1 / 32)) 0).testBit (hexd d.1 % 32)) = true then (Except.ok (true, sn.add 9) : Except String (Bool × Sre.Seen)) else _) = _
  rw [if_pos (this d)]

def found (p : Nat) (m : M) : Prop := (∃ x, m.outcome = some x ∧ x matches .matched) ∧ m.start = p ∧ m.handed = p + 3 ∧ m.lastmark = -1 ∧ m.lastindex = -1 ∧ m.marks = #[]

def midAt (text : Array Nat) (p : Nat) (o : Bool) (sn : Sre.Seen) : M :=
  { code := rcode, text, lim := text.size, start := p, lastStart := text.size, pc := 28, pos := p + 3, handed := p + 3, outermost := o, marks := #[],
    frames := [{ wait := .giveBack, pc := 11, pos := p + 3, outermost := o, count := 2, kept := {} }, { wait := .nextStart, pc := 9, pos := p, outermost := o }], weight := 2, seen := sn }

def litAt (text : Array Nat) (p : Nat) (o : Bool) (sn : Sre.Seen) : M :=
  { code := rcode, text, lim := text.size, start := p, lastStart := text.size, pc := 11, pos := p + 1, handed := p, outermost := o, marks := #[], frames := [{ wait := .nextStart, pc := 9, pos := p, outermost := o }], weight := 1, seen := sn }

theorem run_two {text : Array Nat} {q : Nat} {sn : Sre.Seen} {a b : Nat} (ha : a < 16) (hb : b < 16) (h1 : text.getD q 0 = hexd a) (h2 : text.getD (q + 1) 0 = hexd b) :
    Sre.run rcode text 15 2 q 0 sn = .ok (2, (sn.add 9).add 9) := by
  have s1 := set_hexd ⟨a, ha⟩
  have s2 := set_hexd ⟨b, hb⟩
  simp only at s1 s2
  unfold Sre.run
  rw [h1, s1]
  show Sre.run rcode text 15 1 (q + 1) 1 (sn.add 9) = _
  unfold Sre.run
  rw [h2, s2]
  rfl

theorem step_yes {text : Array Nat} {p : Nat} {o : Bool} {sn : Sre.Seen} {a b : Nat} (hp : p + 3 ≤ text.size) (hc : text.getD p 0 = 61) (ha : a < 16) (hb : b < 16) (h1 : text.getD (p + 1) 0 = hexd a) (h2 : text.getD (p + 2) 0 = hexd b) :
    found p (M.runFor 6 (tryAt text p o sn)) := by
  have e1 : (tryAt text p o sn).step = litAt text p o (sn.add 16) := by
    have h1 : ¬ (text.size ≤ p) := by omega
    have h2 : (text.getD p 0 == 61) = true := by simpa using hc
    show (tryAt text p o sn).exec = _
    unfold M.exec
    show (if p ≥ text.size then _ else match (Except.ok (text.getD p 0 == 61, sn.add 16) : Except String (Bool × Sre.Seen)) with | .error why => _ | .ok (false, seen) => _ | .ok (true, seen) => _) = _
    rw [if_neg h1, h2]
    rfl
  show found p (M.runFor 5 (tryAt text p o sn).step)
  rw [e1]
  have e2 : (litAt text p o (sn.add 16)).step = midAt text p o (((((sn.add 16).add 24).add 13).add 9).add 9) := by
    show (litAt text p o (sn.add 16)).exec = _
    unfold M.exec
    show (if ((2 : Nat) : Int) > (text.size : Int) - (p + 1 : Nat) then _ else _) = _
    rw [if_neg (by omega)]
    have hm : min 2 ((text.size : Int) - (p + 1 : Nat)).toNat = 2 := by omega
    show (match Sre.run rcode text 15 (min 2 ((text.size : Int) - (p + 1 : Nat)).toNat) (p + 1) 0 (((sn.add 16).add 24).add 13) with | .error why => _ | .ok (n, seen) => _) = _
    rw [hm, run_two ha hb h1 h2]
    rfl
  show found p (M.runFor 4 (litAt text p o (sn.add 16)).step)
  rw [e2]
  have hne : (p + 3 == p) = false := by simp
  generalize (((((sn.add 16).add 24).add 13).add 9).add 9) = sn'
  have e3 : (midAt text p o sn').step = { midAt text p o sn' with answer := some true, seen := sn'.add 1 } := by
    show (midAt text p o sn').exec = _
    unfold M.exec
    show (if (o && ((false && p + 3 != text.size) || (false && p + 3 == p))) = true then _ else _) = _
    rw [if_neg (by simp)]
    rfl
  show found p (M.runFor 3 (midAt text p o sn').step)
  rw [e3]
  exact ⟨⟨_, rfl, rfl⟩, rfl, rfl, rfl, rfl, rfl⟩
end Mine
end

section
open PySem PySem.W PyProof.Rows PySem.Calls
open PySem.Sre
set_option Elab.async false
set_option maxRecDepth 100000
namespace Mine
theorem runFor_done {m : M} (h : m.outcome.isSome = true) : ∀ n, M.runFor n m = m
  | 0 => rfl
  | n + 1 => by show (if m.outcome.isSome then m else _) = m; rw [if_pos h]
theorem runFor_add : ∀ (a b : Nat) (m : M), M.runFor (a + b) m = M.runFor b (M.runFor a m)
  | 0, b, m => by rw [Nat.zero_add]; rfl
  | a + 1, b, m => by
    have e : a + 1 + b = (a + b) + 1 := by omega
    rw [e]
    show (if m.outcome.isSome then m else M.runFor (a + b) m.step) = M.runFor b (if m.outcome.isSome then m else M.runFor a m.step)
    by_cases h : m.outcome.isSome = true
    · rw [if_pos h, if_pos h, runFor_done h]
    · rw [if_neg h, if_neg h, runFor_add a b]
theorem runFor_more {m : M} {k n : Nat} (hk : (M.runFor k m).outcome.isSome = true) (h : k ≤ n) : M.runFor n m = M.runFor k m := by
  have : n = k + (n - k) := by omega
  rw [this, runFor_add, runFor_done hk]

theorem noFind {text : Array Nat} : ∀ (d p : Nat) (o : Bool) (sn : Sre.Seen), p + d = text.size → (∀ i, p ≤ i → i < text.size → text.getD i 0 ≠ 61) → ∃ k, k ≤ 2 * d + 3 ∧ ∃ x, (M.runFor k (tryAt text p o sn)).outcome = some x ∧ (x matches .failed)
  | 0, p, o, sn, hp, _ => by
    obtain ⟨m', e, x, hx, hf⟩ := step_end (o := o) (sn := sn) (show p = text.size by omega)
    exact ⟨3, by omega, x, by rw [e]; exact hx, hf⟩
  | d + 1, p, o, sn, hp, h => by
    obtain ⟨sn', e⟩ := step_no (o := o) (sn := sn) (show p < text.size by omega) (h p (Nat.le_refl _) (by omega))
    obtain ⟨k, hk, x, hx⟩ := noFind d (p + 1) false sn' (by omega) (fun i hi => h i (by omega))
    exact ⟨2 + k, by omega, x, by rw [runFor_add, e]; exact hx⟩
theorem find {text : Array Nat} {a b : Nat} (ha : a < 16) (hb : b < 16) : ∀ (d p : Nat) (o : Bool) (sn : Sre.Seen), p + d + 3 ≤ text.size → (∀ i, p ≤ i → i < p + d → text.getD i 0 ≠ 61) → text.getD (p + d) 0 = 61 →
    text.getD (p + d + 1) 0 = hexd a → text.getD (p + d + 2) 0 = hexd b → ∃ k, k ≤ 2 * d + 6 ∧ found (p + d) (M.runFor k (tryAt text p o sn))
  | 0, p, o, sn, hp, _, hc, h1, h2 => ⟨6, by omega, step_yes (by omega) (by simpa using hc) ha hb (by simpa using h1) (by simpa using h2)⟩
  | d + 1, p, o, sn, hp, h, hc, h1, h2 => by
    obtain ⟨sn', e⟩ := step_no (o := o) (sn := sn) (show p < text.size by omega) (h p (Nat.le_refl _) (by omega))
    have e1 : p + (d + 1) = p + 1 + d := by omega
    rw [e1] at hc h1 h2 ⊢
    obtain ⟨k, hk, hf⟩ := find ha hb d (p + 1) false sn' (by omega) (fun i hi hi' => h i (by omega) (by omega)) hc h1 h2
    exact ⟨2 + k, by omega, by rw [runFor_add, e]; exact hf⟩

section
variable {MM : Model} {A : Around} {E : Value → Shared → Prop} {s : Shared}
theorem reDrive_wp {Q : Sre.M → Shared → Prop} : ∀ (turns k : Nat) (m : Sre.M), 0 < turns → k ≤ 4 * turns → (Sre.M.runFor k m).outcome.isSome = true → Q (Sre.M.runFor k m) s → wpAny MM A (Builtin.Re.reDrive turns m) Q E s
  | 0, _, _, h, _, _, _ => absurd h (Nat.lt_irrefl _)
  | t + 1, k, m, _, hk, ho, hq => by
    show wpAny MM A (if (Sre.M.runFor 4 m).outcome.isSome = true then pure (Sre.M.runFor 4 m) else do rule "sre.turn"; Builtin.Re.reDrive t (Sre.M.runFor 4 m)) Q E s
    by_cases h4 : (Sre.M.runFor 4 m).outcome.isSome = true
    · rw [if_pos h4]
      refine wpAny_pure ?_
      rcases Nat.le_total k 4 with h | h
      · rw [runFor_more ho h]; exact hq
      · rw [← runFor_more h4 h]; exact hq
    · rw [if_neg h4]
      have hk4 : ¬ k ≤ 4 := fun h => h4 (by rw [runFor_more ho h]; exact ho)
      have e : Sre.M.runFor k m = Sre.M.runFor (k - 4) (Sre.M.runFor 4 m) := by
        rw [← runFor_add]; congr 1; omega
      rw [e] at ho hq
      exact wpAny_bind (wpAny_rule (reDrive_wp t (k - 4) _ (by omega) (by omega) ho hq))
theorem reRun_wp {Q : Option Sre.M → Shared → Prop} {k : Nat} {m : Sre.M} (hk : k ≤ 4 * 2 ^ 64) (h : (∃ x : Sre.Outcome, (Sre.M.runFor k m).outcome = some x ∧ (x matches .matched) ∧ Q (some (Sre.M.runFor k m)) s) ∨ (∃ x : Sre.Outcome, (Sre.M.runFor k m).outcome = some x ∧ (x matches .failed) ∧ Q none s)) :
    wpAny MM A (Builtin.Re.reRunToEnd m) Q E s := by
  unfold Builtin.Re.reRunToEnd
  have ho : (Sre.M.runFor k m).outcome.isSome = true := by
    rcases h with ⟨x, e, _⟩ | ⟨x, e, _⟩ <;> rw [e] <;> rfl
  refine wpAny_bind (reDrive_wp (2 ^ 64) k m (Nat.two_pow_pos 64) hk ho ?_)
  generalize Sre.M.runFor k m = m' at h ho
  refine wpAny_bind (wpAny_forIn_list _ (fun _ _ s' => s' = s) _ ?_ ?_ _ _ rfl)
  · rintro x rest b s' rfl
    by_cases hs : m'.seen.has x = true
    · rw [if_pos hs]
      exact wpAny_bind (wpAny_rule (wpAny_pure rfl))
    · rw [if_neg hs]
      exact wpAny_pure rfl
  · rintro b s' rfl
    rcases h with ⟨x, e, hx, hq⟩ | ⟨x, e, hx, hq⟩
    · rw [e]
      cases x with
      | matched => exact wpAny_pure hq
      | failed => cases hx
      | stuck => cases hx
    · rw [e]
      cases x with
      | matched => cases hx
      | failed => exact wpAny_pure hq
      | stuck => cases hx
end
end Mine
end

section
open PySem PySem.W PyProof.Rows PySem.Calls
set_option Elab.async false
set_option maxRecDepth 100000
namespace Mine
namespace RF
theorem plainAttrs_match : PlainAttrs "re.Match" :=
  ⟨⟨"object.__getattribute__", by rw [typeLookup_type, builtinLookup_eq_fast]; kernel_rfl, by decide +kernel⟩, by rw [typeLookup_type, builtinLookup_eq_fast]; kernel_rfl⟩
theorem plainAttrs_pattern : PlainAttrs "re.Pattern" :=
  ⟨⟨"object.__getattribute__", by rw [typeLookup_type, builtinLookup_eq_fast]; kernel_rfl, by decide +kernel⟩, by rw [typeLookup_type, builtinLookup_eq_fast]; kernel_rfl⟩
theorem slot_group : Slot "re.Match" "group" "re.Match.group" :=
  .of (owner := "re.Match") (n := "group") (by rw [typeLookup_type, builtinLookup_eq_fast]; kernel_rfl) (by decide +kernel) (by decide +kernel) (by decide +kernel)
    (by first | exact .inl (by decide +kernel) | exact .inr (by decide +kernel)) (by rw [isSubtype_type]; kernel_rfl)
theorem type_group : typeOf (.builtin "re.Match.group") = pure (.type "method_descriptor") := by show builtinType _ = _; rw [builtinType_eq_fast]; kernel_rfl
theorem entry_group : entryFor table "re.Match.group" = some Builtin.«re.Match.group» := entryFor_of_tree (by kernel_rfl)
theorem args_group_2 (a b : Value) : argsOk "re.Match.group" ⟨[a, b], []⟩ := by unfold argsOk; kernel_rfl
theorem slot_sub : Slot "re.Pattern" "sub" "re.Pattern.sub" :=
  .of (owner := "re.Pattern") (n := "sub") (by rw [typeLookup_type, builtinLookup_eq_fast]; kernel_rfl) (by decide +kernel) (by decide +kernel) (by decide +kernel)
    (by first | exact .inl (by decide +kernel) | exact .inr (by decide +kernel)) (by rw [isSubtype_type]; kernel_rfl)
theorem type_sub : typeOf (.builtin "re.Pattern.sub") = pure (.type "method_descriptor") := by show builtinType _ = _; rw [builtinType_eq_fast]; kernel_rfl
theorem entry_sub : entryFor table "re.Pattern.sub" = some Builtin.«re.Pattern.sub» := entryFor_of_tree (by kernel_rfl)
theorem args_sub_3 (a b c : Value) : argsOk "re.Pattern.sub" ⟨[a, b, c], []⟩ := by unfold argsOk; kernel_rfl
theorem entry_loop : entryFor table "re.Pattern.sub.loop" = some Builtin.«re.Pattern.sub.loop» := entryFor_of_tree (by kernel_rfl)
theorem plain_loop : plainId "re.Pattern.sub.loop" = true := by decide +kernel
end RF
end Mine
end

section
open PySem PySem.W PyProof.Rows PySem.Calls
set_option Elab.async false
set_option maxRecDepth 100000
namespace Mine
def MatchAt (h : Heap) (m : Addr) (X : Str) (p q : Nat) : Prop :=
  ∃ tup t n pat a b c, h.get? m = some ⟨.type "re.Match", none, .fields #[.str X t, pat, a, b, c, .ref tup], #[]⟩ ∧ h.get? tup = some ⟨.type "tuple", none, .seq #[rawInt p, rawInt q] n, #[]⟩
theorem MatchAt.keeps {h h' : Heap} {m : Addr} {X : Str} {p q : Nat} (x : MatchAt h m X p q) (hk : Kp h h') : MatchAt h' m X p q :=
  let ⟨tup, t, n, pat, a, b, c, h1, h2⟩ := x; ⟨tup, t, n, pat, a, b, c, hk _ _ h1, hk _ _ h2⟩

section
variable {prog : Program} {w : World} {A : Around} {E : Value → Shared → Prop} {s : Shared} {Q : Value → Shared → Prop} {mg mb : Str → Option Value}

theorem group_wp {m : Addr} {X : Str} {p q : Nat} {u : Tok} {Q : Fin → Shared → Prop} (hm : MatchAt s.heap m X p q) (hsz : (⟨X.cps.extract p q⟩ : Str).length ≤ sizeLine)
    (h : Q (.done (.ret (.str ⟨X.cps.extract p q⟩ s.toks))) { s with toks := s.toks + 1 }) : wpAny (model prog w) A (Builtin.«re.Match.group» ⟨[.ref m, .int 0 u], []⟩) Q E s := by
  obtain ⟨tup, t, n, pat, a, b, c, h1, h2⟩ := hm
  unfold Builtin.«re.Match.group»
  refine wpAny_bind (wpAny_of_eq (a := ()) rfl ?_)
  dsimp only
  refine wpAny_bind ?_
  unfold Builtin.Re.reFound
  refine wpAny_bind (wpAny_fieldsOf h1 rfl ?_)
  refine wpAny_bind ?_
  unfold Builtin.Re.reRawItems
  refine wpAny_bind (wpAny_seqItems h2 rfl ?_)
  refine wpAny_pure (wpAny_pure ?_)
  refine wpAny_bind ?_
  unfold Builtin.Re.reGroupNumber
  refine wpAny_bind (wpAny_of_eq (a := some 0) rfl ?_)
  have hs : Array.map Builtin.Re.reRawOf ((some #[rawInt p, rawInt q]).getD #[]) = #[(p : Int), (q : Int)] := by
    show Array.map Builtin.Re.reRawOf #[rawInt p, rawInt q] = _
    simp [Builtin.Re.reRawOf, rawInt]
  rw [hs]
  wp_walk
  exact h

theorem callWith_fn1 {M : Model} {pos : Pos} {f : Addr} {k : Nat} {d : Value} {t₁ : Sem Value} (hf : FnAt s.heap f k d)
    (h : wpAny M A t₁ (fun v s₁ => Kp s.heap s₁.heap ∧ wpAny M A (call (.ref f) [v]) Q E s₁) E s) : wpAny M A (callWith pos (.ref f) [] [(false, t₁)] []) Q E s :=
  let ⟨_, _, _, ho, hd, _⟩ := hf
  Calls.callWith_function (Calls.evalArgs_plain (Calls.spliced_cons (wpAny_mono h (fun _ _ h₁ => Calls.spliced_nil ⟨⟨h₁.1 _ _ ho, hd⟩, h₁.2⟩) fun _ _ e => e)))
theorem callWith_fn2 {M : Model} {pos : Pos} {f : Addr} {k : Nat} {d : Value} {t₁ t₂ : Sem Value} (hf : FnAt s.heap f k d)
    (h : wpAny M A t₁ (fun v s₁ => wpAny M A t₂ (fun v₂ s₂ => Kp s.heap s₂.heap ∧ wpAny M A (call (.ref f) [v, v₂]) Q E s₂) E s₁) E s) : wpAny M A (callWith pos (.ref f) [] [(false, t₁), (false, t₂)] []) Q E s :=
  let ⟨_, _, _, ho, hd, _⟩ := hf
  Calls.callWith_function (Calls.evalArgs_plain (Calls.spliced_cons (wpAny_mono h (fun _ _ h₁ => Calls.spliced_cons (wpAny_mono h₁ (fun _ _ h₂ => Calls.spliced_nil ⟨⟨h₂.1 _ _ ho, hd⟩, h₂.2⟩) fun _ _ e => e)) fun _ _ e => e)))
theorem callWith_fn3 {M : Model} {pos : Pos} {f : Addr} {k : Nat} {d : Value} {t₁ t₂ t₃ : Sem Value} (hf : FnAt s.heap f k d)
    (h : wpAny M A t₁ (fun v s₁ => wpAny M A t₂ (fun v₂ s₂ => wpAny M A t₃ (fun v₃ s₃ => Kp s.heap s₃.heap ∧ wpAny M A (call (.ref f) [v, v₂, v₃]) Q E s₃) E s₂) E s₁) E s) : wpAny M A (callWith pos (.ref f) [] [(false, t₁), (false, t₂), (false, t₃)] []) Q E s :=
  let ⟨_, _, _, ho, hd, _⟩ := hf
  Calls.callWith_function (Calls.evalArgs_plain (Calls.spliced_cons (wpAny_mono h (fun _ _ h₁ => Calls.spliced_cons (wpAny_mono h₁ (fun _ _ h₂ => Calls.spliced_cons (wpAny_mono h₂ (fun _ _ h₃ => Calls.spliced_nil ⟨⟨h₃.1 _ _ ho, hd⟩, h₃.2⟩) fun _ _ e => e)) fun _ _ e => e)) fun _ _ e => e)))

theorem typeIs_match {m : Addr} {X : Str} {p q : Nat} (hm : MatchAt s.heap m X p q) : s.TypeIs (.ref m) "re.Match" := by
  obtain ⟨tup, t, n, pat, a, b, c, h1, h2⟩ := hm
  exact ⟨_, h1, rfl⟩

theorem umatch_spec {m : Addr} {X : Str} {p q c : Nat} (G : Gl mg mb s.heap) (R : Rm A 5) (hc : c < 256) (hm : MatchAt s.heap m X p q) (hx : X.cps.extract p q = #[61, hexd (c / 16), hexd (c % 16)])
    (h : ∀ h' tk t', Kp s.heap h' → Q (.str (txt [c]) t') { s with heap := h', toks := tk }) :
    wpAny (model prog w) A (call (.ref 86) [.ref m]) Q E s := by
  refine call_def (n := 4) (binds := [(Str.ofString "match", .ref m)]) R G.f_umatch G.lim (fun pm cd => BindsTo.of_eq rfl) (by decide +kernel) (locs (by rfl)) (fun h₁ env tk e1 e2 e3 _ hL hn hk _ => ?_) (by rfl) (by rfl) (by rfl)
  have G₁ := G.keeps hk
  have hkd : env.scope.kind = .function := by rw [e1]; rfl
  have k1 : env.kindOf (Str.ofString "s") = some .local := by unfold Env.kindOf; rw [e1]; decide +kernel
  have k2 : env.kindOf (Str.ofString "match") = some .local := by unfold Env.kindOf; rw [e1]; decide +kernel
  have k3 : env.kindOf (Str.ofString "unquote") = some .globalImplicit := by unfold Env.kindOf; rw [e1]; decide +kernel
  have hg : h₁.Ns env.globals mg := e2 ▸ G₁.g
  refine wpAny_execs_cons (wpAny_Assign_Name ?_ (by rfl))
  refine Call_method1 (by rfl) (by rfl) (by rfl) ?_
  refine nm_loc hn (by rfl) ?_ hkd k2
  refine meth1 RF.plainAttrs_match RF.slot_group RF.type_group (typeIs_match (hm.keeps hk)) (fun _ e => ?_) ?_
  · cases e
    obtain ⟨tup, t, n, pat, a, b, c, h1, h2⟩ := hm.keeps hk
    exact ⟨_, h1, rfl⟩
  refine wpAny_Constant_int ?_
  have hm₁ := hm.keeps hk
  refine wpAny_call_entry RF.slot_group (typeIs_match hm₁) RF.entry_group (group_wp hm₁ (by rw [hx, sizeLine_eq]; show (3 : Nat) ≤ _; omega) ⟨_, rfl, ?_⟩) (RF.args_group_2 _ _)
  rw [hx]
  refine st_loc hn hkd k1 (fun h₂ hn2 hs2 => ?_)
  have hk2 : Kp s.heap h₂ := hk.st hL hs2
  have G₂ := G.keeps hk2
  refine wpAny_execs_cons (wpAny_Return_some ?_)
  refine Call_Name1 (nm_glob (e2 ▸ G₂.g) G₂.v_unquote ?_ hkd k3)
  refine callWith_fn1 G₂.f_unquote ?_
  refine nm_loc hn2 (by rfl) ⟨Kp.refl _, ?_⟩ hkd k1
  refine unquote_spec G₂ ((R.deeper (env := env)).less (by omega)) hc (fun h' tk' t' hk' => ?_)
  exact h _ _ _ (hk2.trans hk')
end
end Mine
end

section
open PySem PySem.W PyProof.Rows PySem.Calls
set_option Elab.async false
set_option maxRecDepth 100000
namespace Mine
section
variable {prog : Program} {w : World} {A : Around} {E : Value → Shared → Prop} {s : Shared} {mg mb : Str → Option Value}
def target (X : Str) (t : Tok) : Builtin.Re.ReTarget := { pattern := .ref 36, string := .str X t, code := rcode, text := X.cps, kind := 0, groups := 0, pos := 0, lim := X.cps.size }
theorem whole_wp {X : Str} {t : Tok} {Q : Builtin.Re.ReTarget → Shared → Prop} (hr : ReAt s.heap) (h : Q (target X t) s) : wpAny (model prog w) A (Builtin.Re.reWholeTarget (.ref 36) (.str X t)) Q E s := by
  obtain ⟨x, t', f, u, g, n, v, cs, k, h1, h2, h3⟩ := hr
  unfold Builtin.Re.reWholeTarget
  refine wpAny_bind (wpAny_fieldsOf h1 rfl ?_)
  refine wpAny_bind ?_
  unfold Builtin.Re.reTextOf
  wp_walk
  have e : Array.map (fun x => Int.toNat x) (Array.map Builtin.Re.reRawOf ((some cs).getD #[])) = rcode := h3
  rw [e]
  exact h

theorem search_early {T : Array Nat} {q : Nat} (h : (decide (q > T.size) || decide (T.size - q < 3)) = true) : ∃ x, (Sre.M.runFor 1 (Sre.forSearch rcode T 0 q T.size false)).outcome = some x ∧ (x matches .failed) := by
  have hh : (Sre.header rcode).fst = 3 := by rfl
  unfold Sre.forSearch
  dsimp only
  rw [hh, if_pos h]
  exact ⟨_, rfl, rfl⟩
theorem search_late {T : Array Nat} {q : Nat} (h : ¬ (decide (q > T.size) || decide (T.size - q < 3)) = true) : Sre.forSearch rcode T 0 q T.size false = tryAt T q true (({} : Sre.Seen).add 14) := by
  have hh : (Sre.header rcode).fst = 3 := by rfl
  unfold Sre.forSearch
  dsimp only
  rw [hh, if_neg h]
  rfl

theorem next_none {X : Str} {t : Tok} {q : Nat} {Q : Option Sre.M → Shared → Prop} (hq : q ≤ X.cps.size) (hsz : X.cps.size ≤ 1000000) (hn : ∀ i, q ≤ i → i < X.cps.size → X.cps.getD i 0 ≠ 61) (h : Q none s) :
    wpAny (model prog w) A (Builtin.Re.reNextFound (target X t) q false) Q E s := by
  show wpAny (model prog w) A (Builtin.Re.reRunToEnd (Sre.forSearch rcode X.cps 0 q X.cps.size false)) Q E s
  by_cases hc : (decide (q > X.cps.size) || decide (X.cps.size - q < 3)) = true
  · obtain ⟨x, hx, hf⟩ := search_early hc
    exact reRun_wp (k := 1) (by decide) (.inr ⟨x, hx, hf, h⟩)
  · rw [search_late hc]
    obtain ⟨k, hk, x, hx, hf⟩ := noFind (text := X.cps) (X.cps.size - q) q true (({} : Sre.Seen).add 14) (by omega) hn
    exact reRun_wp (k := k) (by omega) (.inr ⟨x, hx, hf, h⟩)
theorem next_some {X : Str} {t : Tok} {q d a b : Nat} {Q : Option Sre.M → Shared → Prop} (ha : a < 16) (hb : b < 16) (hq : q + d + 3 ≤ X.cps.size) (hsz : X.cps.size ≤ 1000000) (hn : ∀ i, q ≤ i → i < q + d → X.cps.getD i 0 ≠ 61)
    (hc : X.cps.getD (q + d) 0 = 61) (h1 : X.cps.getD (q + d + 1) 0 = hexd a) (h2 : X.cps.getD (q + d + 2) 0 = hexd b) (h : ∀ m, found (q + d) m → Q (some m) s) :
    wpAny (model prog w) A (Builtin.Re.reNextFound (target X t) q false) Q E s := by
  show wpAny (model prog w) A (Builtin.Re.reRunToEnd (Sre.forSearch rcode X.cps 0 q X.cps.size false)) Q E s
  have hc' : ¬ (decide (q > X.cps.size) || decide (X.cps.size - q < 3)) = true := by simp; omega
  rw [search_late hc']
  obtain ⟨k, hk, hf⟩ := find (text := X.cps) ha hb d q true (({} : Sre.Seen).add 14) hq hn hc h1 h2
  obtain ⟨x, hx, hm⟩ := hf.1
  exact reRun_wp (k := k) (by omega) (.inl ⟨x, hx, hm, h _ hf⟩)

end
end Mine
end

section
open PySem PySem.W PyProof.Rows PySem.Calls
set_option Elab.async false
set_option maxRecDepth 100000
namespace Mine
section
variable {prog : Program} {w : World} {A : Around} {E : Value → Shared → Prop} {s : Shared} {mg mb : Str → Option Value}
theorem push_wp {M : Model} {L : Addr} {vs : Array Value} {x : Value} {Q : Unit → Shared → Prop} (hl : s.heap.IsList L vs) (hsz : vs.size ≤ 100000)
    (h : ∀ h', h'.IsList L (vs.push x) → Heap.SameBut L s.heap h' → Q () { s with heap := h' }) : wpAny M A (updateSeq L (·.push x)) Q E s := by
  obtain ⟨o, ho, hc, n, hd⟩ := hl
  obtain ⟨n', hd'⟩ := Obj.data_mapSeq hd (·.push x)
  refine wpAny_updateSeq ho hd (h _ ?_ (Heap.SameBut.update ..)) (by rw [sizeLine_eq]; omega) (by rw [sizeLine_eq, Array.size_push]; omega)
  exact ⟨_, Heap.get?_update_self _ ho (Obj.isFreed_of_seq hd'), (Obj.cls_mapSeq ..).trans hc, n', hd'⟩

theorem newMatch_wp {X : Str} {t : Tok} {p : Nat} {m : Sre.M} {Q : Value → Shared → Prop} (hf : found p m)
    (h : ∀ h' a, Kp s.heap h' → s.heap.objs.size ≤ h'.objs.size → MatchAt h' a X p (p + 3) → Q (.ref a) { s with heap := h' }) : wpAny (model prog w) A (Builtin.Re.reNewMatch (.ref 36) (.str X t) 0 0 X.cps.size m) Q E s := by
  obtain ⟨_, h1, h2, h3, h4, h5⟩ := hf
  unfold Builtin.Re.reNewMatch
  rw [h1, h2, h3, h4, h5]
  wp_walk
  refine h _ _ ((Kp.refl _).push _ |>.push _) ?_ ⟨s.heap.objs.size, t, 0, .ref 36, rawInt 0, rawInt X.cps.size, rawInt (-1), ?_, ?_⟩
  · simp only [Heap.objs_push, Array.size_push]; omega
  · exact Heap.get?_push_size _ rfl
  · exact Heap.get?_push_of_some _ (Heap.get?_push_size _ rfl)

def plain (c : Nat) : Bool := safe c || c == 32
theorem piece'_plain {c : Nat} (h : plain c = true) : piece' c = [c] := if_pos h
theorem piece'_coded {c : Nat} (h : ¬ plain c = true) : piece' c = [61, hexd (c / 16), hexd (c % 16)] := if_neg h
theorem plain_ne {c : Nat} (h : plain c = true) : c ≠ 61 := by
  rintro rfl; exact absurd h (by decide)
theorem plains {U : List Nat} (h : ∀ c ∈ U, plain c = true) : U.flatMap piece' = U := by
  induction U with
  | nil => rfl
  | cons c r ih => rw [List.flatMap_cons, ih fun x hx => h x (List.mem_cons_of_mem _ hx), piece'_plain (h c List.mem_cons_self)]; rfl
/-- the plain signs ahead, and what stands behind them -/
theorem splitW : ∀ W : List Nat, (∀ c ∈ W, plain c = true) ∨ ∃ U c V, W = U ++ c :: V ∧ (∀ x ∈ U, plain x = true) ∧ ¬ plain c = true
  | [] => .inl fun _ h => nomatch h
  | c :: r => by
    by_cases h : plain c = true
    · rcases splitW r with q | ⟨U, d, V, e, h1, h2⟩
      · exact .inl fun x hx => by
          rcases List.mem_cons.mp hx with rfl | hx
          · exact h
          · exact q x hx
      · exact .inr ⟨c :: U, d, V, by rw [e]; rfl, fun x hx => by
          rcases List.mem_cons.mp hx with rfl | hx
          · exact h
          · exact h1 x hx, h2⟩
    · exact .inr ⟨[], c, r, rfl, fun _ h => (nomatch h), h⟩

theorem getD_mid (P R : List Nat) (j : Nat) : (P ++ R).toArray.getD (P.length + j) 0 = R.getD j 0 := by
  have e : (P ++ R)[P.length + j]? = R[j]? := by
    rw [List.getElem?_append_right (Nat.le_add_right ..), Nat.add_sub_cancel_left]
  simp [Array.getD_eq_getD_getElem?, List.getD_eq_getElem?_getD, e]
theorem extract_mid (P U R : List Nat) : (P ++ (U ++ R)).toArray.extract P.length (P.length + U.length) = U.toArray := by
  apply Array.ext'
  simp
end
end Mine
end

section
open PySem PySem.W PyProof.Rows PySem.Calls
set_option Elab.async false
set_option maxRecDepth 100000
namespace Mine
def flat (ys : List Str) : List Nat := ys.flatMap fun y => y.cps.toList
theorem join_flat : ∀ ys : List Str, Txt.join ⟨#[]⟩ ys = txt (flat ys) := by
  intro ys
  have h : (Str.join ⟨#[]⟩ ys).cps.toList = flat ys := by
    induction ys with
    | nil => rfl
    | cons y r ih =>
      cases r with
      | nil => simp [flat, Str.join]
      | cons z r' =>
        show (y ++ ⟨#[]⟩ ++ Str.join ⟨#[]⟩ (z :: r')).cps.toList = _
        rw [Str.cps_append, Str.cps_append, Array.toList_append, Array.toList_append, ih]
        simp [flat]
  show Builtin.Str.glued ⟨#[]⟩ ys = _
  rw [StrLaws.glued_eq_join]
  generalize Str.join ⟨#[]⟩ ys = r at h
  obtain ⟨⟨l⟩⟩ := r
  have e : l = _ := h
  rw [e]; rfl
theorem flat_len (ys : List Str) : (ys.map (·.length)).sum = (flat ys).length := by
  unfold flat
  rw [List.length_flatMap]; rfl
theorem strsAre_push {vs : Array Value} {ys : List Str} (h : StrsAre vs.toList ys) (x : Str) (t : Tok) : StrsAre (vs.push (.str x t)).toList (ys ++ [x]) := by
  rw [Array.toList_push]
  generalize vs.toList = l at h
  induction h with
  | nil => exact .cons _ _ .nil
  | cons y t _ ih => exact .cons _ _ ih
theorem strsAre_size {vs : Array Value} {ys : List Str} (h : StrsAre vs.toList ys) : vs.size = ys.length := by
  rw [← Array.length_toList]
  generalize vs.toList = l at h
  induction h with
  | nil => rfl
  | cons y t _ ih => rw [List.length_cons, List.length_cons, ih]
theorem flat_snoc (ys : List Str) (x : Str) : flat (ys ++ [x]) = flat ys ++ x.cps.toList := by simp [flat]

theorem pieces'_le (W : List Nat) : (W.flatMap piece').length ≤ 3 * W.length := by
  induction W with
  | nil => simp
  | cons c r ih =>
    have : (piece' c).length ≤ 3 := by unfold piece'; split <;> simp
    rw [List.flatMap_cons, List.length_append, List.length_cons]; omega

section
variable {prog : Program} {w : World} {A : Around} {R : Result → Shared → Prop} {mg mb : Str → Option Value}
theorem sub_loop {L : Addr} {h₀ : Heap} {X : Str} {t : Tok} (hA : Rm A 8) (hL : h₀.objs.size ≤ L) : ∀ (n : Nat) (W2 : List Nat), W2.length = n → ∀ (W1 : List Nat) (vs : Array Value) (ys : List Str) (k : Int) (s : Shared), 
    Gl mg mb h₀ → Kp h₀ s.heap → s.heap.IsList L vs → StrsAre vs.toList ys → flat ys = W1 → ys.length ≤ 2 * W1.length → (W1 ++ W2).length ≤ 1000 → (∀ c ∈ W2, c < 256) → X = txt ((W1 ++ W2).flatMap piece') →
    (∀ h' tk t', Kp h₀ h' → R (.ok (.ret (.str (txt (W1 ++ W2)) t'))) { s with heap := h', toks := tk }) →
    codeAny (model prog w) A (.builtin "re.Pattern.sub.loop" ⟨[.ref 36, .str X t, .ref 86, rawInt 1, rawInt 0, rawInt k, rawInt (W1.flatMap piece').length, rawInt (W1.flatMap piece').length, .bool false, .ref L, .bool false], []⟩) R s := by
  intro n
  induction n using Nat.strongRecOn with
  | ind n ih =>
    intro W2 hn W1 vs ys k s G0 hk hl hy hf hyl hlen hc hX hR
    have G := G0.keeps hk
    refine codeAny_builtin RF.entry_loop ?_
    rw [Around.under_plainId RF.plain_loop _]
    unfold Builtin.«re.Pattern.sub.loop»
    dsimp only [rawInt]
    refine wpAny_bind (whole_wp G.re ?_)
    refine wpAny_bind ?_
    show wpAny (model prog w) _ (Builtin.Re.reNextFound (target X t) (W1.flatMap piece').length false) _ _ _
    have hXc : X.cps = (W1.flatMap piece' ++ W2.flatMap piece').toArray := by rw [hX, ← List.flatMap_append]; rfl
    have hXs : X.cps.size = (W1.flatMap piece').length + (W2.flatMap piece').length := by rw [hXc]; simp
    have b1 := pieces'_le W1
    have b2 := pieces'_le W2
    rw [List.length_append] at hlen
    rcases splitW W2 with hp | ⟨U, c, V, e, hU, hcc⟩
    · rw [plains hp] at hXc hXs
      refine next_none (by omega) (by omega) (fun i h1 h2 => ?_) ?_
      · obtain ⟨j, rfl⟩ : ∃ j, i = (W1.flatMap piece').length + j := ⟨i - (W1.flatMap piece').length, by omega⟩
        rw [hXc, getD_mid]
        have hj : j < W2.length := by omega
        rw [List.getD_eq_getElem?_getD, List.getElem?_eq_getElem hj]
        exact plain_ne (hp _ (List.getElem_mem hj))
      · dsimp only
        by_cases h0 : W2 = []
        · rw [if_neg (by
            show ¬ ((W1.flatMap piece').length : Int).toNat < X.cps.size
            rw [hXs, h0, Int.toNat_natCast]; simp)]
          have hl' := hl
          have hy' := hy
          have hk' := hk
          have hf' : flat ys = W1 ++ W2 := by rw [hf, h0, List.append_nil]
          refine wpAny_bind ?_
          show wpAny _ _ (mkStr ⟨X.cps.extract 0 0⟩) _ _ _
          rw [show X.cps.extract 0 0 = #[] by simp]
          refine wpAny_mkStr ?_ (by rw [sizeLine_eq]; show (0 : Nat) ≤ _; omega)
          obtain ⟨o, ho, hoc, no, hod⟩ := id hl'
          refine wpAny_bind (wpAny_seqItems ho hod ?_)
          have hvs := strsAre_size hy'
          by_cases hemp : vs.isEmpty = true
          · rw [if_pos (by exact hemp)]
            have hz : vs.size = 0 := by simpa using hemp
            have hys : ys = [] := List.eq_nil_of_length_eq_zero (by omega)
            rw [hys] at hf'
            refine wpAny_bind (wpAny_pure ?_)
            rw [if_neg (by simp)]
            refine wpAny_pure ?_
            have := hR _ (s.toks + 1) (s.toks) hk'
            rw [← hf'] at this
            exact this
          · rw [if_neg (by exact hemp)]
            refine wpAny_bind ?_
            show wpAny (model prog w) _ (call (.builtin "str.join") [.str ⟨#[]⟩ _, .ref L]) _ _ _
            refine join_list hl' hy' (by rw [flat_len, hf', List.length_append]; show _ + _ * 0 ≤ _; omega) fun t' k' => ?_
            rw [if_neg (by simp)]
            refine wpAny_pure ?_
            rw [join_flat, hf']
            exact hR _ _ _ hk'
        · rw [if_pos (by
            show ((W1.flatMap piece').length : Int).toNat < X.cps.size
            have : W2.length ≠ 0 := fun e => h0 (List.eq_nil_of_length_eq_zero e)
            rw [hXs, Int.toNat_natCast]; omega)]
          refine wpAny_bind ?_
          show wpAny _ _ (mkStr ⟨X.cps.extract ((W1.flatMap piece').length : Int).toNat X.cps.size⟩) _ _ _
          have he : X.cps.extract ((W1.flatMap piece').length : Int).toNat X.cps.size = W2.toArray := by
            rw [Int.toNat_natCast, hXs, hXc]
            have := extract_mid (W1.flatMap piece') W2 []
            rw [List.append_nil] at this
            exact this
          rw [he]
          refine wpAny_mkStr ?_ (by rw [sizeLine_eq]; show W2.toArray.size ≤ _; rw [List.size_toArray]; omega)
          refine wpAny_bind (push_wp hl ?_ fun h' hl' hs' => ?_)
          · have := strsAre_size hy; omega
          · have hy' := strsAre_push hy ⟨W2.toArray⟩ s.toks
            have hf' : flat (ys ++ [⟨W2.toArray⟩]) = W1 ++ W2 := by rw [flat_snoc, hf]
            have hk' := hk.st hL hs'
            dsimp only
            refine wpAny_bind ?_
            show wpAny _ _ (mkStr ⟨X.cps.extract 0 0⟩) _ _ _
            rw [show X.cps.extract 0 0 = #[] by simp]
            refine wpAny_mkStr ?_ (by rw [sizeLine_eq]; show (0 : Nat) ≤ _; omega)
            obtain ⟨o, ho, hoc, no, hod⟩ := id hl'
            refine wpAny_bind (wpAny_seqItems ho hod ?_)
            have hvs := strsAre_size hy'
            by_cases hemp : (vs.push (.str ⟨W2.toArray⟩ s.toks)).isEmpty = true
            · rw [if_pos (by exact hemp)]
              have hz : (vs.push (.str ⟨W2.toArray⟩ s.toks)).size = 0 := by simpa using hemp
              have hys : (ys ++ [⟨W2.toArray⟩]) = [] := List.eq_nil_of_length_eq_zero (by omega)
              rw [hys] at hf'
              refine wpAny_bind (wpAny_pure ?_)
              rw [if_neg (by simp)]
              refine wpAny_pure ?_
              have := hR _ (s.toks + 1 + 1) (s.toks + 1) hk'
              rw [← hf'] at this
              exact this
            · rw [if_neg (by exact hemp)]
              refine wpAny_bind ?_
              show wpAny (model prog w) _ (call (.builtin "str.join") [.str ⟨#[]⟩ _, .ref L]) _ _ _
              refine join_list hl' hy' (by rw [flat_len, hf', List.length_append]; show _ + _ * 0 ≤ _; omega) fun t' k' => ?_
              rw [if_neg (by simp)]
              refine wpAny_pure ?_
              rw [join_flat, hf']
              exact hR _ _ _ hk'
    · subst e
      have hc256 : c < 256 := hc c (by simp)
      have hX2 : X.cps = (W1.flatMap piece' ++ (U ++ ([61, hexd (c / 16), hexd (c % 16)] ++ V.flatMap piece'))).toArray := by
        rw [hXc, List.flatMap_append, List.flatMap_cons, plains hU, piece'_coded hcc]
      have hl1 : (W1.flatMap piece').length + U.length + 3 ≤ X.cps.size := by
        rw [hX2, List.size_toArray]; simp only [List.length_append, List.length_cons, List.length_nil]; omega
      rw [List.length_append, List.length_cons] at hlen
      have hsz : X.cps.size ≤ 3000 := by
        rw [List.length_append, List.length_cons] at b2; omega
      have hgd : ∀ j, X.cps.getD ((W1.flatMap piece').length + (U.length + j)) 0 = ([61, hexd (c / 16), hexd (c % 16)] ++ V.flatMap piece').getD j 0 := fun j => by
        rw [hX2, getD_mid, List.getD_eq_getElem?_getD, List.getElem?_append_right (Nat.le_add_right ..), Nat.add_sub_cancel_left, List.getD_eq_getElem?_getD]
      refine next_some (d := U.length) (a := c / 16) (b := c % 16) (by omega) (by omega) hl1 (by omega) (fun i h1 h2 => ?_) (hgd 0) (hgd 1) (hgd 2) fun m hm => ?_
      · obtain ⟨j, rfl⟩ : ∃ j, i = (W1.flatMap piece').length + j := ⟨i - (W1.flatMap piece').length, by omega⟩
        have hj : j < U.length := by omega
        rw [hX2, getD_mid, List.getD_eq_getElem?_getD, List.getElem?_append_left hj, List.getElem?_eq_getElem hj]
        exact plain_ne (hU _ (List.getElem_mem hj))
      · have hm' := hm
        obtain ⟨_, m1, m2, m3, m4, m5⟩ := hm'
        dsimp only
        rw [m1, m2]
        have hx : X.cps.extract ((W1.flatMap piece').length + U.length) ((W1.flatMap piece').length + U.length + 3) = #[61, hexd (c / 16), hexd (c % 16)] := by
          have := extract_mid (W1.flatMap piece' ++ U) [61, hexd (c / 16), hexd (c % 16)] (V.flatMap piece')
          rw [List.length_append] at this
          rw [hX2, ← List.append_assoc]
          exact this
        by_cases h0 : U = []
        · rw [if_neg (by
            rw [h0, Int.toNat_natCast]; simp)]
          have hl' := hl
          have hy' := hy
          have hk' := hk
          have hf' : flat ys = W1 ++ U := by rw [hf, h0, List.append_nil]
          have hyl' : ys.length ≤ 2 * W1.length + U.length := by omega
          rw [if_neg (by decide)]
          refine wpAny_bind (newMatch_wp hm fun h2 a hk2 hz2 hma => ?_)
          refine wpAny_bind (wpAny_holding ?_)
          rw [if_pos (by decide)]
          have hkA := hk'.trans hk2
          refine umatch_spec (G0.keeps hkA) ((hA.in1 (n := 7)).less (by omega)) hc256 hma hx fun h3 tk3 t3 hk3 => ?_
          have hkB := hkA.trans hk3
          dsimp only
          rw [if_pos (by rfl)]
          have hl3 : h3.IsList L vs := hl'.at fun o e => hk3 _ _ (hk2 _ _ e)
          have hvs := strsAre_size hy'
          refine wpAny_bind (push_wp hl3 (by omega) fun h4 hl4 hs4 => ?_)
          have hkC := hkB.st hL hs4
          have hy4 := strsAre_push hy' (txt [c]) t3
          have hf4 : flat (ys ++ [txt [c]]) = W1 ++ U ++ [c] := by rw [flat_snoc, hf']; rfl
          have hq : ((W1 ++ U ++ [c]).flatMap piece').length = (W1.flatMap piece').length + U.length + 3 := by
            rw [List.flatMap_append, List.flatMap_append, plains hU, List.length_append, List.length_append]
            simp [piece'_coded hcc]
          have hnb : ((W1.flatMap piece').length + U.length + 3 == (W1.flatMap piece').length + U.length) = false := by simp
          refine wpAny_pure ⟨plainId_quiet RF.plain_loop _, ?_⟩
          rw [hnb, ← hq]
          have hWW : W1 ++ U ++ [c] ++ V = W1 ++ (U ++ c :: V) := by simp
          refine ih V.length (by rw [← hn, List.length_append, List.length_cons]; omega) V rfl (W1 ++ U ++ [c]) _ _ (k + 1) _ G0 hkC hl4 hy4 hf4 ?_ ?_ (fun x hx => hc x (by simp [hx])) (by rw [hWW]; exact hX) fun h' tk t' hk' => ?_
          · rw [List.length_append, List.length_append, List.length_append]; simp only [List.length_append, List.length_cons, List.length_nil]; clear hyl'; omega
          · rw [hWW, List.length_append, List.length_append, List.length_cons]; omega
          · rw [hWW]; exact hR _ _ _ hk'
        · have hU0 : U.length ≠ 0 := fun e => h0 (List.eq_nil_of_length_eq_zero e)
          rw [if_pos (by
            rw [Int.toNat_natCast]; omega)]
          refine wpAny_bind ?_
          show wpAny _ _ (mkStr ⟨X.cps.extract ((W1.flatMap piece').length : Int).toNat ((W1.flatMap piece').length + U.length)⟩) _ _ _
          have he : X.cps.extract ((W1.flatMap piece').length : Int).toNat ((W1.flatMap piece').length + U.length) = U.toArray := by
            rw [Int.toNat_natCast, hX2]
            exact extract_mid (W1.flatMap piece') U _
          rw [he]
          refine wpAny_mkStr ?_ (by rw [sizeLine_eq]; show U.toArray.size ≤ _; rw [List.size_toArray]; omega)
          refine wpAny_bind (push_wp hl ?_ fun h' hl' hs' => ?_)
          · have := strsAre_size hy; omega
          · have hy' := strsAre_push hy ⟨U.toArray⟩ s.toks
            have hf' : flat (ys ++ [⟨U.toArray⟩]) = W1 ++ U := by rw [flat_snoc, hf]
            have hk' := hk.st hL hs'
            have hyl' : (ys ++ [(⟨U.toArray⟩ : Str)]).length ≤ 2 * W1.length + U.length := by rw [List.length_append, List.length_cons, List.length_nil]; omega
            dsimp only
            rw [if_neg (by decide)]
            refine wpAny_bind (newMatch_wp hm fun h2 a hk2 hz2 hma => ?_)
            refine wpAny_bind (wpAny_holding ?_)
            rw [if_pos (by decide)]
            have hkA := hk'.trans hk2
            refine umatch_spec (G0.keeps hkA) ((hA.in1 (n := 7)).less (by omega)) hc256 hma hx fun h3 tk3 t3 hk3 => ?_
            have hkB := hkA.trans hk3
            dsimp only
            rw [if_pos (by rfl)]
            have hl3 : h3.IsList L (vs.push (.str ⟨U.toArray⟩ s.toks)) := hl'.at fun o e => hk3 _ _ (hk2 _ _ e)
            have hvs := strsAre_size hy'
            refine wpAny_bind (push_wp hl3 (by omega) fun h4 hl4 hs4 => ?_)
            have hkC := hkB.st hL hs4
            have hy4 := strsAre_push hy' (txt [c]) t3
            have hf4 : flat ((ys ++ [⟨U.toArray⟩]) ++ [txt [c]]) = W1 ++ U ++ [c] := by rw [flat_snoc, hf']; rfl
            have hq : ((W1 ++ U ++ [c]).flatMap piece').length = (W1.flatMap piece').length + U.length + 3 := by
              rw [List.flatMap_append, List.flatMap_append, plains hU, List.length_append, List.length_append]
              simp [piece'_coded hcc]
            have hnb : ((W1.flatMap piece').length + U.length + 3 == (W1.flatMap piece').length + U.length) = false := by simp
            refine wpAny_pure ⟨plainId_quiet RF.plain_loop _, ?_⟩
            rw [hnb, ← hq]
            have hWW : W1 ++ U ++ [c] ++ V = W1 ++ (U ++ c :: V) := by simp
            refine ih V.length (by rw [← hn, List.length_append, List.length_cons]; omega) V rfl (W1 ++ U ++ [c]) _ _ (k + 1) _ G0 hkC hl4 hy4 hf4 ?_ ?_ (fun x hx => hc x (by simp [hx])) (by rw [hWW]; exact hX) fun h' tk t' hk' => ?_
            · rw [List.length_append, List.length_append, List.length_append]; simp only [List.length_append, List.length_cons, List.length_nil]; clear hyl'; omega
            · rw [hWW, List.length_append, List.length_append, List.length_cons]; omega
            · rw [hWW]; exact hR _ _ _ hk'
end
end Mine
end

section
open PySem PySem.W PyProof.Rows PySem.Calls
set_option Elab.async false
set_option maxRecDepth 100000
namespace Mine
section
variable {prog : Program} {w : World} {A : Around} {E : Value → Shared → Prop} {s : Shared} {Q : Value → Shared → Prop} {mg mb : Str → Option Value}
theorem meth2 {T : String} {name : Str} {id : String} {ov : Value} {pos : Pos} {t t₂ : Sem Value} (pa : PlainAttrs T) (slot : Slot T name id) (ty : typeOf (.builtin id) = pure (.type "method_descriptor")) (hT : s.TypeIs ov T)
    (hd : ∀ a, ov = .ref a → ∃ ob, s.heap.get? a = some ob ∧ ob.dict = none) (h : wpAny (model prog w) A t (fun v s₁ => wpAny (model prog w) A t₂ (fun v₂ s₂ => wpAny (model prog w) A (call (.builtin id) [ov, v, v₂]) Q E s₂) E s₁) E s) :
    MethodOnS prog w A E name ov pos [(false, t), (false, t₂)] Q s :=
  ⟨T, id, pa, slot, ty, hT, hd, Calls.callWith_builtin rfl (Calls.evalArgs_plain (Calls.spliced_cons (wpAny_mono h (fun _ _ h₁ => Calls.spliced_cons (wpAny_mono h₁ (fun _ _ h₂ => Calls.spliced_nil h₂) fun _ _ e => e)) fun _ _ e => e)))⟩

theorem re_typeIs (hr : ReAt s.heap) : s.TypeIs (.ref 36) "re.Pattern" := by
  obtain ⟨x, t', f, u, g, n, v, cs, k, h1, h2, h3⟩ := hr
  exact ⟨_, h1, rfl⟩

theorem fn_call : typeLookup (.type "function") (Str.ofString "__call__") = pure (some (.builtin "function.__call__")) := by rw [typeLookup_type, builtinLookup_eq_fast]; kernel_rfl

theorem sub_spec {W : List Nat} {t : Tok} (G : Gl mg mb s.heap) (R : Rm A 8) (hW : ∀ c ∈ W, c < 256) (hlen : W.length ≤ 1000)
    (h : ∀ h' tk t', Kp s.heap h' → Q (.str (txt W) t') { s with heap := h', toks := tk }) :
    wpAny (model prog w) A (call (.builtin "re.Pattern.sub") [.ref 36, .ref 86, .str (txt (W.flatMap piece')) t]) Q E s := by
  refine wpAny_call (codeAny_call_builtin RF.slot_sub.plain RF.entry_sub (RF.slot_sub.check _ _ _ _ _ _ _ _ (re_typeIs G.re) (RF.args_sub_3 _ _ _) ?_))
  obtain ⟨o, ho, hoc, hod⟩ := G.cls
  unfold Builtin.«re.Pattern.sub»
  unfold Builtin.Re.reSubstitute
  dsimp only
  unfold Builtin.Re.reNamed
  wp_walk
  rw [hoc]
  refine wpAny_of_eq fn_call ?_
  rw [if_pos (by rfl : (some (Value.builtin "function.__call__")).isSome = true)]
  refine wpAny_bind (wpAny_pure ?_)
  rw [if_pos (by rfl : (some (Value.builtin "function.__call__")).isSome = true)]
  refine wpAny_bind (wpAny_pure ?_)
  refine wpAny_bind (wpAny_holding (whole_wp G.re ?_))
  rw [if_pos (by decide)]
  unfold Builtin.Re.reNotHeld
  wp_walk
  refine wpAny_of_eq (a := false) (by rw [isSubtype_type]; kernel_rfl) ?_
  wp_walk
  refine ⟨plainId_quiet RF.plain_loop _, ?_⟩
  refine sub_loop (L := s.heap.objs.size) (h₀ := s.heap) (X := txt (W.flatMap piece')) R (Nat.le_refl _) W.length W rfl [] #[] [] 0 _ G ((Kp.refl _).push _) ⟨_, Heap.get?_push_size _ rfl, rfl, _, rfl⟩ .nil rfl (by simp) (by simpa using hlen) hW rfl fun h' tk t' hk' => ?_
  exact h _ _ _ hk'

theorem decode_spec {W : List Nat} {t : Tok} (G : Gl mg mb s.heap) (R : Rm A 10) (hW : ∀ c ∈ W, c < 256) (hlen : W.length ≤ 1000)
    (h : ∀ h' tk t', Kp s.heap h' → Q (.str (txt W) t') { s with heap := h', toks := tk }) :
    wpAny (model prog w) A (call (.ref 93) [.str (enc W) t]) Q E s := by
  refine call_def (n := 9) (binds := [(Str.ofString "s", .str (enc W) t)]) R G.f_decode G.lim (fun pm cd => BindsTo.of_eq rfl) (by decide +kernel) (locs (by rfl)) (fun h₁ env tk e1 e2 e3 _ hL hn hk htk => ?_) (by rfl) (by rfl) (by rfl)
  have G₁ := G.keeps hk
  have hkd : env.scope.kind = .function := by rw [e1]; rfl
  have k1 : env.kindOf (Str.ofString "s") = some .local := by unfold Env.kindOf; rw [e1]; decide +kernel
  have k2 : env.kindOf (Str.ofString "_twin_re_1") = some .globalImplicit := by unfold Env.kindOf; rw [e1]; decide +kernel
  have k3 : env.kindOf (Str.ofString "_unquote_match") = some .globalImplicit := by unfold Env.kindOf; rw [e1]; decide +kernel
  have le : (enc W).length ≤ 3000 := by
    rw [enc_len]
    have := pieces_le W
    omega
  refine wpAny_execs_cons (wpAny_Assign_Name ?_ (by rfl))
  refine Call_method2 (by rfl) (by rfl) (by rfl) ?_
  refine nm_loc hn (by rfl) ?_ hkd k1
  refine meth2 F.plainAttrs_str F.slot_str_replace F.type_str_replace (typeIs_str _ _ _) (fun _ e => nomatch e) ?_
  refine wpAny_Constant_str ?_
  refine wpAny_Constant_str ?_
  refine SC.replaceW ?_ ?_ ?_ (by decide +kernel) (by omega) (by decide +kernel) fun t' k => ?_
  · exact fun e => absurd (show tk = 0 from e) (by rw [htk]; exact Nat.succ_ne_zero _)
  · exact fun e => absurd (show tk + 1 = 0 from e) (Nat.succ_ne_zero _)
  · exact fun e => absurd (show tk = tk + 1 from e) (Nat.ne_of_lt (Nat.lt_succ_self _))
  have e : Txt.replace (enc W) (Str.ofString "_") (Str.ofString " ") = txt (W.flatMap piece') := by
    have := replace_swap (enc W) 95 32
    rw [show (Str.ofString "_" : Str) = ⟨#[95]⟩ by decide +kernel, show (Str.ofString " " : Str) = ⟨#[32]⟩ by decide +kernel, this]
    show txt (swap 95 32 (W.flatMap piece)) = _
    rw [pieces_swap hW]
  rw [e]
  refine st_loc hn hkd k1 (fun h₂ hn2 hs2 => ?_)
  have hk2 := hk.st hL hs2
  have G₂ := G.keeps hk2
  have hg : h₂.Ns env.globals mg := e2 ▸ G₂.g
  refine wpAny_execs_cons (wpAny_Return_some ?_)
  refine Call_method2 (by rfl) (by rfl) (by rfl) ?_
  refine nm_glob hg G₂.v_re ?_ hkd k2
  refine meth2 RF.plainAttrs_pattern RF.slot_sub RF.type_sub (re_typeIs G₂.re) (fun a e => ?_) ?_
  · cases e
    obtain ⟨x, t', f, u, g, n, v, cs, k, h1, h2, h3⟩ := G₂.re
    exact ⟨_, h1, rfl⟩
  refine nm_glob hg G₂.v_umatch ?_ hkd k3
  refine nm_loc hn2 (by rfl) ?_ hkd k1
  refine sub_spec G₂ ((R.deeper (env := env)).less (by omega)) hW hlen fun h' tk' t' hk' => ?_
  exact h _ _ _ (hk2.trans hk')
end
end Mine
end

section
open PySem PySem.W PyProof.Rows PySem.Calls
set_option Elab.async false
set_option maxRecDepth 100000
namespace Mine
def edge : List Nat := [32, 95, 61, 63, 97, 48, 90, 45, 33, 42, 43, 47, 46, 233, 0, 126]
def octet (x : Int) : Nat := if x.fmod 272 < 16 then edge.getD (x.fmod 272).toNat 0 else (x.fmod 272 - 16).toNat
theorem octet_lt (x : Int) : octet x < 256 := by
  unfold octet
  have h1 := Int.fmod_lt_of_pos x (show (0 : Int) < 272 by decide)
  split
  · have : ∀ i, edge.getD i 0 < 256 := by
      intro i
      by_cases h : i < 16
      · exact (by decide : ∀ i : Fin 16, edge.getD i.1 0 < 256) ⟨i, h⟩
      · rw [List.getD_eq_getElem?_getD, List.getElem?_eq_none (by show 16 ≤ i; omega)]; decide
    exact this _
  · omega
section
variable {prog : Program} {w : World} {A : Around} {E : Value → Shared → Prop} {s : Shared} {Q : Value → Shared → Prop} {mg mb : Str → Option Value}
theorem octet_spec {x : Int} {t : Tok} (G : Gl mg mb s.heap) (R : Rm A 4)
    (h : ∀ h' tk t', Kp s.heap h' → Q (.int (octet x : Nat) t') { s with heap := h', toks := tk }) :
    wpAny (model prog w) A (call (.ref 100) [.int x t]) Q E s := by
  refine call_def (n := 3) (binds := [(Str.ofString "x", .int x t)]) R G.f_octet G.lim (fun pm cd => BindsTo.of_eq rfl) (by decide +kernel) (locs (by rfl)) (fun h₁ env tk e1 e2 e3 _ hL hn hk _ => ?_) (by rfl) (by rfl) (by rfl)
  have hkd : env.scope.kind = .function := by rw [e1]; rfl
  have k1 : env.kindOf (Str.ofString "x") = some .local := by unfold Env.kindOf; rw [e1]; decide +kernel
  have k2 : env.kindOf (Str.ofString "rest") = some .local := by unfold Env.kindOf; rw [e1]; decide +kernel
  have r0 := Int.fmod_nonneg_of_pos x (show (0 : Int) < 272 by decide)
  have r1 := Int.fmod_lt_of_pos x (show (0 : Int) < 272 by decide)
  refine wpAny_execs_cons (wpAny_Assign_Name ?_ (by rfl))
  refine wpAny_BinOp ?_
  refine nm_loc hn (by rfl) ?_ hkd k1
  refine wpAny_Constant_int ?_
  refine mod_int (by decide) ?_
  refine st_loc hn hkd k2 (fun h₂ hn2 hs2 => ?_)
  have hk2 := hk.st hL hs2
  refine wpAny_execs_cons (wpAny_Return_some ?_)
  refine wpAny_IfExp ?_
  refine wpAny_isTrue_Compare1 ?_
  refine nm_loc hn2 (by rfl) ?_ hkd k2
  refine wpAny_Constant_int ?_
  refine lt_int ?_
  refine wpAny_truthy_bool ?_
  by_cases hlt : x.fmod 272 < 16
  · rw [if_pos (by simpa using hlt)]
    refine Subscript_ (Constant_bytes ?_)
    refine nm_loc hn2 (by rfl) ?_ hkd k2
    refine subscriptTail_builtin (typeIs_bytes _ _ _) FB.slot_bytes_getitem.lookup (getItem_bytes (by decide) r0 (by show _ < (16 : Int); exact hlt) ?_)
    have key : ∀ i : Fin 16, ((edge.map Nat.toUInt8).getD i.1 0).toNat = edge.getD i.1 0 := by decide
    have e : ((edge.map Nat.toUInt8).getD (x.fmod 272).toNat 0).toNat = octet x := by
      have := key ⟨(x.fmod 272).toNat, by omega⟩
      simp only at this
      unfold octet
      rw [if_pos hlt, this]
    have hq := fun a b => h h₂ a b hk2
    rw [← e] at hq
    exact hq _ _
  · rw [if_neg (by simpa using hlt)]
    refine wpAny_BinOp ?_
    refine nm_loc hn2 (by rfl) ?_ hkd k2
    refine wpAny_Constant_int ?_
    refine sub_int ?_
    have e : x.fmod 272 - 16 = ((octet x : Nat) : Int) := by
      unfold octet
      rw [if_neg hlt]; omega
    rw [e]
    exact h _ _ _ hk2
end
end Mine
end

section
open PySem PySem.W PyProof.Rows PySem.Calls
set_option Elab.async false
set_option maxRecDepth 100000
namespace Mine
def cost (W : List Nat) : Nat := (W.map fun c => (piece c).length).sum
def waysOf (row : List Nat) (cap : Nat) (g : List Nat) (stop : Nat) : Nat → List Nat
  | 0 => []
  | k + 1 => if cap < cost ((row.drop k).take (stop - k)) then [] else (g.getD k 0 + 1) :: waysOf row cap g stop k
def IsMin (M : Nat) (l : List Nat) : Prop := M ∈ l ∧ ∀ a ∈ l, M ≤ a
def Dp (row : List Nat) (cap : Nat) (g : List Nat) : Prop := g.getD 0 0 = 0 ∧ ∀ j, 0 < j → j < g.length → IsMin (g.getD j 0) (waysOf row cap g j j)
theorem waysOf_ext {row : List Nat} {cap : Nat} {g g' : List Nat} {stop : Nat} : ∀ k, (∀ i, i < k → g.getD i 0 = g'.getD i 0) → waysOf row cap g stop k = waysOf row cap g' stop k
  | 0, _ => rfl
  | k + 1, h => by
    unfold waysOf
    rw [h k (Nat.lt_succ_self k), waysOf_ext k fun i hi => h i (Nat.lt_succ_of_lt hi)]
theorem Dp.snoc {row : List Nat} {cap : Nat} {g : List Nat} {M : Nat} (h : Dp row cap g) (h0 : 0 < g.length) (hm : IsMin M (waysOf row cap g g.length g.length)) : Dp row cap (g ++ [M]) := by
  have e : ∀ i, i < g.length → g.getD i 0 = (g ++ [M]).getD i 0 := fun i hi => by
    rw [List.getD_eq_getElem?_getD, List.getD_eq_getElem?_getD, List.getElem?_append_left hi]
  refine ⟨(e 0 h0).symm.trans h.1, fun j hj hl => ?_⟩
  rw [List.length_append, List.length_cons, List.length_nil] at hl
  by_cases hlt : j < g.length
  · rw [← e j hlt, ← waysOf_ext (g := g) j fun i hi => e i (by omega)]
    exact h.2 j hj hlt
  · obtain rfl : j = g.length := by omega
    have e2 : (g ++ [M]).getD g.length 0 = M := by
      rw [List.getD_eq_getElem?_getD, List.getElem?_append_right (Nat.le_refl _), Nat.sub_self]; rfl
    rw [e2, ← waysOf_ext (g := g) g.length e]
    exact hm

def asInts (l : List Nat) : List Int := l.map Int.ofNat
section
variable {prog : Program} {w : World} {A : Around} {E : Value → Shared → Prop} {s : Shared} {Q : Value → Shared → Prop} {mg mb : Str → Option Value}
theorem min_wp {l : Addr} {vs : List Value} {ns : List Nat} (hh : A.handled = none) (hl : s.heap.IsList l vs.toArray) (hi : IntsAre vs (asInts ns)) (hne : 0 < ns.length)
    (h : ∀ h' M (t : Tok) tk, Kp s.heap h' → IsMin M ns → Q (.int (M : Nat) t) { s with heap := h', toks := tk }) :
    wpAny (model prog w) A (call (.builtin "min") [.ref l]) Q E s := by
  obtain ⟨xs, e⟩ := hi.allInts.items
  have hns : asInts ns = xs.toList.map (·.1) := by
    rw [← hi.numsOf, ← nums_intItems, ← e]
  have hlen : xs.size = ns.length := by
    have := congrArg List.length hns
    simpa [asInts] using this.symm
  rw [e] at hl
  refine min_intList hh hl (by omega) fun v h' tk hv hk => ?_
  obtain ⟨t, rfl⟩ := intItems_at hv
  obtain ⟨h1, h2⟩ := argBest_lt (numAt xs) (xs.size - 1)
  have hat : ∀ j, j < ns.length → numAt xs j = (ns.getD j 0 : Nat) := fun j hj => by
    rw [numAt_eq, ← hns, asInts, List.getD_eq_getElem?_getD, List.getElem?_map, List.getD_eq_getElem?_getD, List.getElem?_eq_getElem hj]; rfl
  rw [hat _ (by omega)]
  refine h _ _ t tk hk ⟨?_, fun a ha => ?_⟩
  · rw [List.getD_eq_getElem?_getD, List.getElem?_eq_getElem (by omega)]; exact List.getElem_mem _
  · obtain ⟨j, hj, rfl⟩ := List.getElem_of_mem ha
    have := h2 j (by omega)
    rw [hat _ (by omega), hat _ hj] at this
    have e2 : ns.getD j 0 = ns[j] := by rw [List.getD_eq_getElem?_getD, List.getElem?_eq_getElem hj]; rfl
    omega
end
end Mine
end

section
open PySem PySem.W PyProof.Rows PySem.Calls
set_option Elab.async false
set_option maxRecDepth 100000
namespace Mine
/-- a list object that has no dict of its own -/
def PL (h : Heap) (a : Addr) (vs : Array Value) : Prop := ∃ o, h.get? a = some o ∧ o.cls = .type "list" ∧ o.dict = none ∧ ∃ n, o.data = .seq vs n
theorem PL.isList {h : Heap} {a : Addr} {vs : Array Value} (x : PL h a vs) : h.IsList a vs := let ⟨o, a, b, _, c⟩ := x; ⟨o, a, b, c⟩
theorem PL.kept {h h' : Heap} {a : Addr} {vs : Array Value} (x : PL h a vs) (k : Kp h h') : PL h' a vs := let ⟨o, a, b⟩ := x; ⟨o, k _ _ a, b⟩
theorem PL.but {h h' : Heap} {a b : Addr} {vs : Array Value} (x : PL h a vs) (hs : Heap.ExtBut b h h') (hab : a ≠ b) : PL h' a vs := let ⟨o, e, r⟩ := x; ⟨o, hs a o hab e, r⟩
theorem PL.new (h : Heap) (vs : Array Value) : PL (h.push ⟨.type "list", none, .seq vs 0, #[]⟩) h.objs.size vs := ⟨_, Heap.get?_push_size _ rfl, rfl, rfl, _, rfl⟩
theorem PL.lt {h : Heap} {a : Addr} {vs : Array Value} (x : PL h a vs) : @LT.lt Nat instLTNat a h.objs.size := let ⟨_, e, _⟩ := x; Heap.lt_size e

section
variable {prog : Program} {w : World} {A : Around} {s : Shared} {env : Env}
theorem append_wp {E : Value → Shared → Prop} {Q : Value → Shared → Prop} {l : Addr} {items : Array Value} {x : Value} (hl : PL s.heap l items) (hsz : items.size ≤ 100000)
    (hQ : ∀ h', PL h' l (items.push x) → Heap.SameBut l s.heap h' → Q .none { s with heap := h' }) : wpAny (model prog w) A (call (.builtin "list.append") [.ref l, x]) Q E s := by
  obtain ⟨o, ho, hc, hdi, n, hd⟩ := id hl
  refine wpAny_call_entry slot_list_append hl.isList.typeIs entry_list_append ?_ (args_list_append _ _)
  show wpAny _ _ (updateSeq l (·.push x) >>= fun _ => ret .none) _ _ s
  refine wpAny_bind ?_
  refine wpAny_updateSeq ho hd (wpAny_pure ⟨.none, rfl, hQ _ ?_ (Heap.SameBut.update ..)⟩) (by rw [sizeLine_eq]; omega) (by rw [sizeLine_eq, Array.size_push]; omega)
  obtain ⟨c, d, dt, sl⟩ := o
  simp only at hd hc hdi
  subst hd hc hdi
  exact ⟨_, Heap.get?_update_self _ ho rfl, rfl, rfl, _, rfl⟩

theorem fn_quiet (hk : env.scope.kind = .function) : interactive env = false := by
  unfold interactive; rw [hk]; rfl

theorem app_stmt {E : Value → Shared → Prop} {Q : Flow → Shared → Prop} {x : Str} {p₁ p₂ p₃ p₄ : Pos} {e : Expr} {l : Addr} {items₀ : Array Value} {m : Str → Option Value} (hkd : env.scope.kind = .function) (hl : env.kindOf x = some .local)
    (hn : s.heap.Ns env.locals m) (hv : m x = some (.ref l)) (hp : PL s.heap l items₀) (hd : (x == ("__debug__" : Str)) = false)
    (h : wpAny (model prog w) A (eval e env) (fun v s₁ => ∃ items, PL s₁.heap l items ∧ items.size ≤ 100000 ∧ ∀ h', PL h' l (items.push v) → Heap.SameBut l s₁.heap h' → Q .next { s₁ with heap := h' }) E s)
    (hs : starEach [e] env = [(false, eval e env)] := by rfl) (hline : (p₂.endLine == p₃.line) = true := by rfl)
    (hsw : swapsWith (.Call (.Attribute (.Name x p₁) (Str.ofString "append") p₂) [e] [] p₃) none p₄.line env = pure false := by rfl) :
    wpAny (model prog w) A (exec (.Expr (.Call (.Attribute (.Name x p₁) (Str.ofString "append") p₂) [e] [] p₃) p₄) env) Q E s := by
  refine wpAny_Expr ?_ (fn_quiet hkd) hsw
  refine Call_method1 (by rfl) hs hline ?_
  refine nm_loc hn hv ?_ hkd hl hd
  refine meth1 F.plainAttrs_list slot_list_append type_list_append hp.isList.typeIs (fun a e => ?_) (wpAny_mono h (fun v s₁ h₁ => ?_) fun _ _ e => e)
  · cases e; obtain ⟨o, a, _, b, _⟩ := hp; exact ⟨o, a, b⟩
  · obtain ⟨items, h1, h2, h3⟩ := h₁
    exact append_wp h1 h2 fun h' a b => h3 h' a b
end
end Mine
end

section
open PySem PySem.W PyProof.Rows PySem.Calls
set_option Elab.async false
set_option maxRecDepth 100000
namespace Mine
/-- the names that stand through the whole call -/
structure Few (h₀ h : Heap) (L : Addr) (r F : Addr) (n : Str) (lim : Int) (m : Str → Option Value) : Prop where
  ns : h.Ns L m
  kp : Kp h₀ h
  row : m (Str.ofString "row") = some (.ref r)
  name : ∃ t, m (Str.ofString "name") = some (.str n t)
  limit : ∃ t, m (Str.ofString "limit") = some (.int lim t)
  few : m (Str.ofString "fewest") = some (.ref F)
theorem Few.kept {h₀ h h' : Heap} {L r F : Addr} {n : Str} {lim : Int} {m : Str → Option Value} (x : Few h₀ h L r F n lim m) (hk : Kp h h') : Few h₀ h' L r F n lim m :=
  { x with ns := x.ns.keeps hk, kp := x.kp.trans hk }
theorem Few.but {h₀ h h' : Heap} {L r F l : Addr} {n : Str} {lim : Int} {m : Str → Option Value} (x : Few h₀ h L r F n lim m) (hl : l ≠ L) (hL : h₀.objs.size ≤ l) (hs : Heap.SameBut l h h') : Few h₀ h' L r F n lim m :=
  { x with ns := x.ns.sameBut hs (Ne.symm hl), kp := x.kp.st hL hs }
theorem Few.store {h₀ h h' : Heap} {L r F : Addr} {n : Str} {lim : Int} {m : Str → Option Value} {y : Str} {v : Value} (x : Few h₀ h L r F n lim m) (hL : h₀.objs.size ≤ L)
    (hn : h'.Ns L fun z => if z = y then some v else m z) (hs : Heap.SameBut L h h') (h1 : Str.ofString "row" ≠ y) (h2 : Str.ofString "name" ≠ y) (h3 : Str.ofString "limit" ≠ y) (h4 : Str.ofString "fewest" ≠ y) :
    Few h₀ h' L r F n lim fun z => if z = y then some v else m z where
  ns := hn
  kp := x.kp.st hL hs
  row := by rw [if_neg h1]; exact x.row
  name := by rw [if_neg h2]; exact x.name
  limit := by rw [if_neg h3]; exact x.limit
  few := by rw [if_neg h4]; exact x.few

section
variable {M : Model} {A : Around} {E : Value → Shared → Prop} {s : Shared} {env : Env} {pos : Pos}
theorem sp1 {e : Expr} {Q : List Value → Shared → Prop} (h : wpAny M A (eval e env) (fun v s₁ => Q [v] s₁) E s) (hs : starEach [e] env = [(false, eval e env)] := by rfl) : wpAny M A (spliced (backTo pos (starEach [e] env))) Q E s := by
  rw [hs]
  exact Calls.spliced_cons (wpAny_mono h (fun _ _ h₁ => Calls.spliced_nil h₁) fun _ _ e => e)
theorem Call_Name3 {x : Str} {p pos : Pos} {e₁ e₂ e₃ : Expr} {Q : Value → Shared → Prop}
    (h : wpAny M A (eval (.Name x p) env) (fun f s₁ => wpAny M A (callWith pos f [] [(false, eval e₁ env), (false, eval e₂ env), (false, eval e₃ env)] []) Q E s₁) E s)
    (hs : starEach [e₁, e₂, e₃] env = [(false, eval e₁ env), (false, eval e₂ env), (false, eval e₃ env)] := by rfl) :
    wpAny M A (eval (.Call (.Name x p) [e₁, e₂, e₃] [] pos) env) Q E s := Call_Name (by rw [hs]; rfl) h
theorem callWith_type3 {pos : Pos} {T : String} {t₁ t₂ t₃ : Sem Value} {Q : Value → Shared → Prop} (h : wpAny M A t₁ (fun v s₁ => wpAny M A t₂ (fun v' s₂ => wpAny M A t₃ (fun v'' s₃ => wpAny M A (call (.type T) [v, v', v'']) Q E s₃) E s₂) E s₁) E s) :
    wpAny M A (callWith pos (.type T) [] [(false, t₁), (false, t₂), (false, t₃)] []) Q E s :=
  PySem.callWith_type rfl (Calls.evalArgs_plain (Calls.spliced_cons (wpAny_mono h (fun _ _ h₁ => Calls.spliced_cons (wpAny_mono h₁ (fun _ _ h₂ => Calls.spliced_cons (wpAny_mono h₂ (fun _ _ h₃ => Calls.spliced_nil h₃) fun _ _ e => e)) fun _ _ e => e)) fun _ _ e => e)))
theorem sp0 {Q : List Value → Shared → Prop} (h : Q [] s) : wpAny M A (spliced (backTo pos (starEach [] env))) Q E s := Calls.spliced_nil h
end

theorem asInts_len (l : List Nat) : (asInts l).length = l.length := by simp [asInts]
theorem asInts_getD (l : List Nat) (i : Nat) (h : i < l.length) : (asInts l).getD i 0 = ((l.getD i 0 : Nat) : Int) := by
  rw [asInts, List.getD_eq_getElem?_getD, List.getElem?_map, List.getElem?_eq_getElem h, List.getD_eq_getElem?_getD, List.getElem?_eq_getElem h]; rfl
theorem asInts_snoc (l : List Nat) (x : Nat) : asInts (l ++ [x]) = asInts l ++ [(x : Int)] := by simp [asInts]
theorem asInts_slice (l : List Nat) (a k : Nat) : ((asInts l).drop a).take k = asInts ((l.drop a).take k) := by simp [asInts, List.map_take, List.map_drop]
theorem asInts_byte {W : List Nat} (h : ∀ c ∈ W, c < 256) : ∀ n ∈ asInts W, 0 ≤ n ∧ n < 256 := by
  intro n hn
  obtain ⟨c, hc, rfl⟩ := List.mem_map.mp hn
  have := h c hc
  exact ⟨Int.natCast_nonneg c, by show ((c : Nat) : Int) < 256; omega⟩
theorem byteArr_asInts (W : List Nat) : byteArr (asInts W) = byts W := by
  unfold byteArr byts asInts
  rw [List.map_map]; rfl
theorem encName_len (n : Str) (W : List Nat) : (encName n W).length = cost W + n.length + 7 := by
  unfold encName wrap
  simp only [Str.length_append]
  rw [enc_len, show (Str.ofString "=?").length = 2 by decide +kernel, show (Str.ofString "?q?").length = 3 by decide +kernel, show (Str.ofString "?=").length = 2 by decide +kernel]
  show 2 + n.length + 3 + cost W + 2 = _
  omega
theorem piece_pos (c : Nat) : 1 ≤ (piece c).length ∧ (piece c).length ≤ 3 := by
  unfold piece; split
  · simp
  · split <;> simp
theorem waysOf_ne {row : List Nat} {cap : Nat} {g : List Nat} {i : Nat} (hi : i < row.length) (hc : 3 ≤ cap) : 0 < (waysOf row cap g (i + 1) (i + 1)).length := by
  unfold waysOf
  have e : (row.drop i).take (i + 1 - i) = [row[i]] := by
    rw [show i + 1 - i = 1 by omega, List.drop_eq_getElem_cons hi]; rfl
  rw [e, if_neg (by have := (piece_pos row[i]).2; simp [cost]; omega)]
  simp
theorem rangeSize_down (i : Nat) : Builtin.Range.rangeSize (1 + (i : Int) - 1) (-1) (-1) = (i : Int) + 1 := by
  unfold Builtin.Range.rangeSize
  rw [if_neg (by decide), if_pos (by omega), Int.neg_neg, Int.ediv_one]
  omega
theorem small_down {i : Nat} (hi : i ≤ 1000) : Builtin.Range.small (1 + (i : Int) - 1) (-1) (-1) = true := by
  unfold Builtin.Range.small
  rw [rangeSize_down]
  simp only [Builtin.Range.rangeFitsLong, Bool.and_eq_true, Bool.or_eq_true, decide_eq_true_eq, beq_iff_eq]
  rw [if_neg (by decide)]
  simp only [decide_eq_true_eq, Bool.and_eq_true]
  omega

section
variable {prog : Program} {w : World} {A : Around} {E : Value → Shared → Prop} {s : Shared} {Q : Value → Shared → Prop} {mg mb : Str → Option Value}
theorem fewest_spec {r : Addr} {vs : List Value} {row : List Nat} {n : Str} {t u : Tok} {cap : Nat} (G : Gl mg mb s.heap) (R : Rm A 8) (hl : s.heap.IsList r vs.toArray) (hi : IntsAre vs (asInts row)) (hrow : ∀ c ∈ row, c < 256) (hlen : row.length ≤ 1000)
    (hn : n.length ≤ 1000) (hcap : 3 ≤ cap)
    (h : ∀ h' tk t g, Kp s.heap h' → Dp row cap g → g.length = row.length + 1 → Q (.int (g.getD row.length 0 : Nat) t) { s with heap := h', toks := tk }) :
    wpAny (model prog w) A (call (.ref 107) [.ref r, .str n t, .int (cap + n.length + 7 : Nat) u]) Q E s := by
  refine call_def (n := 7) (binds := [(Str.ofString "row", .ref r), (Str.ofString "name", .str n t), (Str.ofString "limit", .int (cap + n.length + 7 : Nat) u)]) R G.f_fewest G.lim (fun pm cd => BindsTo.of_eq rfl) (by decide +kernel) (locs (by rfl)) (fun h₁ env tk e1 e2 e3 e4 hL hn0 hk _ => ?_) (by rfl) (by rfl) (by rfl)
  have G₁ := G.keeps hk
  have hkd : env.scope.kind = .function := by rw [e1]; rfl
  have k1 : env.kindOf (Str.ofString "row") = some .local := by unfold Env.kindOf; rw [e1]; decide +kernel
  have k2 : env.kindOf (Str.ofString "name") = some .local := by unfold Env.kindOf; rw [e1]; decide +kernel
  have k3 : env.kindOf (Str.ofString "limit") = some .local := by unfold Env.kindOf; rw [e1]; decide +kernel
  have k4 : env.kindOf (Str.ofString "fewest") = some .local := by unfold Env.kindOf; rw [e1]; decide +kernel
  have k5 : env.kindOf (Str.ofString "stop") = some .local := by unfold Env.kindOf; rw [e1]; decide +kernel
  have k6 : env.kindOf (Str.ofString "ways") = some .local := by unfold Env.kindOf; rw [e1]; decide +kernel
  have k7 : env.kindOf (Str.ofString "start") = some .local := by unfold Env.kindOf; rw [e1]; decide +kernel
  have k8 : env.kindOf (Str.ofString "range") = some .globalImplicit := by unfold Env.kindOf; rw [e1]; decide +kernel
  have k9 : env.kindOf (Str.ofString "len") = some .globalImplicit := by unfold Env.kindOf; rw [e1]; decide +kernel
  have k10 : env.kindOf (Str.ofString "header_encode") = some .globalImplicit := by unfold Env.kindOf; rw [e1]; decide +kernel
  have k11 : env.kindOf (Str.ofString "bytes") = some .globalImplicit := by unfold Env.kindOf; rw [e1]; decide +kernel
  have k12 : env.kindOf (Str.ofString "min") = some .globalImplicit := by unfold Env.kindOf; rw [e1]; decide +kernel
  refine wpAny_execs_cons (wpAny_Assign_Name ?_ (by rfl))
  refine wpAny_List ?_
  refine sp1 (wpAny_Constant_int ⟨by rw [sizeLine_eq]; show (1 : Nat) ≤ _; omega, ?_⟩)
  have hLlt : @LT.lt Nat instLTNat env.locals h₁.objs.size := let ⟨_, _, _, ho, _⟩ := hn0; Heap.lt_size ho
  refine st_loc (hn0.push _) hkd k4 (fun h₂ hn2 hs2 => ?_)
  generalize hFe : h₁.objs.size = F at *
  have hF : PL h₂ F #[.int 0 tk] := (hFe ▸ PL.new h₁ #[.int 0 tk] : PL (h₁.push _) F #[.int 0 tk]).but hs2.extBut (Nat.ne_of_gt hLlt)
  have hfew : Few s.heap h₂ env.locals r F n (cap + n.length + 7 : Nat) _ := { ns := hn2, kp := (hk.push _).st hL hs2, row := rfl, name := ⟨_, rfl⟩, limit := ⟨_, rfl⟩, few := rfl }
  generalize (fun y => if y = Str.ofString "fewest" then some (Value.ref F) else List.lookup y [(Str.ofString "row", Value.ref r), (Str.ofString "name", Value.str n t), (Str.ofString "limit", Value.int (cap + n.length + 7 : Nat) u)].reverse) = m0 at hfew
  clear hn2 hs2 hn0
  have G₂ := G.keeps hfew.kp
  refine wpAny_execs_cons (wpAny_For ?_)
  refine Call_Name2 (nm_blt (e2 ▸ G₂.g) G₂.n_range (e3 ▸ G₂.b) G₂.b_range ?_ hkd k8)
  refine callWith_type2 ?_
  refine wpAny_Constant_int ?_
  refine wpAny_BinOp ?_
  refine Call_Name1 (nm_blt (e2 ▸ G₂.g) G₂.n_len (e3 ▸ G₂.b) G₂.b_len ?_ hkd k9)
  refine callWith_builtin1 (nm_loc hfew.ns hfew.row ?_ hkd k1)
  have hsz : vs.length = row.length := by rw [hi.length]; simp [asInts]
  refine len_list (hl.at fun o e => hfew.kp _ _ e) (by rw [List.size_toArray, hsz]; omega) ?_
  refine wpAny_Constant_int ?_
  refine add_int ?_
  refine call_range_2 ?_
  have hL' : @LE.le Nat instLENat s.heap.objs.size env.locals := hL
  have hFL : @LE.le Nat instLENat s.heap.objs.size F := Nat.le_trans hL (Nat.le_of_lt hLlt)
  have hFs := hF.lt
  have hsmall : Builtin.Range.small 1 ((row.length : Int) + 1) 1 = true := small_one (by omega) (by omega) (by omega) (by omega)
  have hsz' : vs.toArray.size = row.length := by rw [List.size_toArray, hsz]
  dsimp only
  rw [hsz']
  refine wpAny_pyIter_range (IsRange.new ..) hsmall ?_
  dsimp only
  have hsz1 : Builtin.Range.rangeSize 1 ((row.length : Int) + 1) 1 = row.length := by
    rw [rangeSize_one]; split <;> omega
  rw [hsz1]
  refine codeAny_mono (R := fun res s' => ∃ h' tk' m g gv, res = .ok .next ∧ s' = { s with heap := h', toks := tk' } ∧ Few s.heap h' env.locals r F n (cap + n.length + 7 : Nat) m ∧ PL h' F gv.toArray ∧ IntsAre gv (asInts g) ∧ Dp row cap g ∧ g.length = row.length + 1) ?_ ?_
  · obtain ⟨I, hIe⟩ : ∃ I : Nat, I = h₂.objs.size + 1 := ⟨_, rfl⟩
    rw [Heap.size_push, ← hIe]
    have hfew3 := (hfew.kept ((Kp.refl h₂).push ⟨.type "range", none, .fields #[.int 1 (tk + 1 + 1), .int (row.length + 1) (tk + 1 + 1 + 1 + 1 + 1 + 1), .int 1 (tk + 1 + 1 + 1 + 1 + 1 + 1 + 1)], #[]⟩)).kept ((Kp.refl _).push ⟨.type "range_iterator", none, .fields #[rawInt 1, rawInt row.length, rawInt 1], #[]⟩)
    have hI3 : IsRangeIter ((h₂.push ⟨.type "range", none, .fields #[.int 1 (tk + 1 + 1), .int (row.length + 1) (tk + 1 + 1 + 1 + 1 + 1 + 1), .int 1 (tk + 1 + 1 + 1 + 1 + 1 + 1 + 1)], #[]⟩).push ⟨.type "range_iterator", none, .fields #[rawInt 1, rawInt row.length, rawInt 1], #[]⟩) I 1 row.length 1 := by
      have := Heap.get?_push_size (h₂.push ⟨.type "range", none, .fields #[.int 1 (tk + 1 + 1), .int (row.length + 1) (tk + 1 + 1 + 1 + 1 + 1 + 1), .int 1 (tk + 1 + 1 + 1 + 1 + 1 + 1 + 1)], #[]⟩) (o := ⟨.type "range_iterator", none, .fields #[rawInt 1, rawInt row.length, rawInt 1], #[]⟩) rfl
      rw [Heap.size_push, ← hIe] at this
      exact this
    have hF3 := (hF.kept ((Kp.refl _).push ⟨.type "range", none, .fields #[.int 1 (tk + 1 + 1), .int (row.length + 1) (tk + 1 + 1 + 1 + 1 + 1 + 1), .int 1 (tk + 1 + 1 + 1 + 1 + 1 + 1 + 1)], #[]⟩)).kept ((Kp.refl _).push ⟨.type "range_iterator", none, .fields #[rawInt 1, rawInt row.length, rawInt 1], #[]⟩)
    generalize ((h₂.push ⟨.type "range", none, .fields #[.int 1 (tk + 1 + 1), .int (row.length + 1) (tk + 1 + 1 + 1 + 1 + 1 + 1), .int 1 (tk + 1 + 1 + 1 + 1 + 1 + 1 + 1)], #[]⟩).push ⟨.type "range_iterator", none, .fields #[rawInt 1, rawInt row.length, rawInt 1], #[]⟩) = h₃ at *
    have hIF : I ≠ F := by omega
    have hIL : I ≠ env.locals := by intro e; have : @Eq Nat I env.locals := e; omega
    have hFneL : F ≠ env.locals := by intro e; have : @Eq Nat F env.locals := e; omega
    have hIs : @LE.le Nat instLENat s.heap.objs.size I := by omega
    refine codeAny_forLoop (fun k s' => ∃ h' tk' m i g gv, s' = { s with heap := h', toks := tk' } ∧ Few s.heap h' env.locals r F n (cap + n.length + 7 : Nat) m ∧ IsRangeIter h' I (1 + (i : Nat)) ((row.length : Int) - (i : Nat)) 1 ∧ PL h' F gv.toArray ∧ IntsAre gv (asInts g) ∧ Dp row cap g ∧
      g.length = i + 1 ∧ i ≤ row.length ∧ k = row.length + 1 - i) ?_ (row.length + 1) ⟨h₃, _, m0, 0, [0], [.int 0 tk], rfl, hfew3, hI3, hF3, .cons _ _ .nil, ⟨rfl, fun j h1 h2 => absurd h2 (by simp; omega)⟩, rfl, Nat.zero_le _, rfl⟩
    rintro k s' ⟨h', tk', m, i, g, gv, rfl, hf, hit, hF', hg, hd, hgl, hile, rfl⟩
    by_cases hlt : i < row.length
    · refine wpAny_pyNext_range_item hit (by omega) fun h4 hit4 hs4 => ?_
      have hf4 := hf.but hIL hIs hs4
      have hF4 := hF'.but hs4.extBut (Ne.symm hIF)
      refine wpAny_assign_Name (st_loc hf4.ns hkd k5 fun h5 hn5 hs5 => ?_)
      have hf5 := hf4.store hL hn5 hs5 (by decide +kernel) (by decide +kernel) (by decide +kernel) (by decide +kernel)
      have hF5 := hF4.but hs5.extBut hFneL
      have hit5 : IsRangeIter h5 I _ _ 1 := hs5.extBut _ _ hIL hit4
      dsimp only at hit5 ⊢
      refine wpAny_execs_cons (wpAny_Assign_Name (wpAny_List (sp0 ⟨Nat.zero_le _, ?_⟩)) (by rfl))
      have hLs : @LT.lt Nat instLTNat env.locals h5.objs.size := let ⟨_, _, _, ho, _⟩ := hn5; Heap.lt_size ho
      have hFs5 := hF5.lt
      have hIs5 : @LT.lt Nat instLTNat I h5.objs.size := Heap.lt_size hit5
      refine st_loc (hf5.ns.push _) hkd k6 fun h6 hn6 hs6 => ?_
      dsimp only at hn6 hs6 ⊢
      generalize hWe : h5.objs.size = W at *
      have hWF : W ≠ F := by intro e; have : @Eq Nat W F := e; omega
      have hWI : W ≠ I := by intro e; have : @Eq Nat W I := e; omega
      have hWL : W ≠ env.locals := by intro e; have : @Eq Nat W env.locals := e; omega
      have hWs : @LE.le Nat instLENat s.heap.objs.size W := by omega
      have hf6 := (hf5.kept ((Kp.refl h5).push ⟨.type "list", none, .seq #[] 0, #[]⟩)).store hL hn6 hs6 (by decide +kernel) (by decide +kernel) (by decide +kernel) (by decide +kernel)
      have hF6 := (hF5.kept ((Kp.refl _).push ⟨.type "list", none, .seq #[] 0, #[]⟩)).but hs6.extBut hFneL
      have hit6 : IsRangeIter h6 I _ _ 1 := hs6.extBut _ _ hIL (Heap.get?_push_of_some ⟨.type "list", none, .seq #[] 0, #[]⟩ hit5)
      have hW6 : PL h6 W #[] := (hWe ▸ PL.new h5 #[] : PL (h5.push _) W #[]).but hs6.extBut hWL
      have hst6 : (fun z => if z = Str.ofString "ways" then some (Value.ref W) else (fun z => if z = Str.ofString "stop" then some (Value.int (1 + (i : Int)) tk') else m z) z) (Str.ofString "stop") = some (.int (1 + (i : Int)) tk') := by
        show (if Str.ofString "stop" = Str.ofString "ways" then _ else _) = _
        rw [if_neg (by decide +kernel)]; exact if_pos rfl
      have hwy6 : (fun z => if z = Str.ofString "ways" then some (Value.ref W) else (fun z => if z = Str.ofString "stop" then some (Value.int (1 + (i : Int)) tk') else m z) z) (Str.ofString "ways") = some (.ref W) := if_pos rfl
      generalize (fun z => if z = Str.ofString "ways" then some (Value.ref W) else (fun z => if z = Str.ofString "stop" then some (Value.int (1 + (i : Int)) tk') else m z) z) = m6 at hf6 hst6 hwy6
      clear hn6 hs6 hf5 hn5 hs5 hf4 hs4 hit4 hF4 hF5 hit5
      have G₆ := G.keeps hf6.kp
      refine wpAny_execs_cons (wpAny_For ?_)
      refine Call_Name3 (nm_blt (e2 ▸ G₆.g) G₆.n_range (e3 ▸ G₆.b) G₆.b_range ?_ hkd k8)
      refine callWith_type3 ?_
      refine wpAny_BinOp ?_
      refine nm_loc hf6.ns hst6 ?_ hkd k5
      refine wpAny_Constant_int ?_
      refine sub_int ?_
      refine UnaryOp_ (wpAny_Constant_int (neg_int ?_))
      refine UnaryOp_ (wpAny_Constant_int (neg_int ?_))
      refine call_range_3 (by decide) ?_ (.inl (PyProof.noPylong_small (by omega)))
      dsimp only
      refine wpAny_pyIter_range (IsRange.new ..) (small_down (by omega)) ?_
      rw [rangeSize_down]
      dsimp only
      refine codeAny_mono (R := fun res s' => ∃ h' tk' m wv, res = .ok .next ∧ s' = { s with heap := h', toks := tk' } ∧ Few s.heap h' env.locals r F n (cap + n.length + 7 : Nat) m ∧ IsRangeIter h' I (1 + (i : Int) + 1) ((row.length : Int) - i - 1) 1 ∧
        PL h' F gv.toArray ∧ PL h' W wv.toArray ∧ IntsAre wv (asInts (waysOf row cap g (i + 1) (i + 1))) ∧ m (Str.ofString "ways") = some (.ref W)) ?_ ?_
      · obtain ⟨J, hJe⟩ : ∃ J : Nat, J = h6.objs.size + 1 := ⟨_, rfl⟩
        rw [Heap.size_push, ← hJe]
        have hWs6 := hW6.lt
        have hFs6 := hF6.lt
        have hIs6 : @LT.lt Nat instLTNat I h6.objs.size := Heap.lt_size hit6
        have hLs6 : @LT.lt Nat instLTNat env.locals h6.objs.size := let ⟨_, _, _, ho, _⟩ := hf6.ns; Heap.lt_size ho
        have kA : Kp h6 ((h6.push ⟨.type "range", none, .fields #[.int (1 + (i : Int) - 1) (tk' + 1 + 1 + 1 + 1), .int (-1) (tk' + 1 + 1 + 1 + 1 + 1 + 1), .int (-1) (tk' + 1 + 1 + 1 + 1 + 1 + 1 + 1 + 1)], #[]⟩).push ⟨.type "range_iterator", none, .fields #[rawInt (1 + (i : Int) - 1), rawInt ((i : Int) + 1), rawInt (-1)], #[]⟩) := (Kp.refl h6).push _ |>.push _
        have hit : IsRangeIter ((h6.push ⟨.type "range", none, .fields #[.int (1 + (i : Int) - 1) (tk' + 1 + 1 + 1 + 1), .int (-1) (tk' + 1 + 1 + 1 + 1 + 1 + 1), .int (-1) (tk' + 1 + 1 + 1 + 1 + 1 + 1 + 1 + 1)], #[]⟩).push ⟨.type "range_iterator", none, .fields #[rawInt (1 + (i : Int) - 1), rawInt ((i : Int) + 1), rawInt (-1)], #[]⟩) J (1 + (i : Int) - 1) ((i : Int) + 1) (-1) := by
          have := Heap.get?_push_size (h6.push ⟨.type "range", none, .fields #[.int (1 + (i : Int) - 1) (tk' + 1 + 1 + 1 + 1), .int (-1) (tk' + 1 + 1 + 1 + 1 + 1 + 1), .int (-1) (tk' + 1 + 1 + 1 + 1 + 1 + 1 + 1 + 1)], #[]⟩) (o := ⟨.type "range_iterator", none, .fields #[rawInt (1 + (i : Int) - 1), rawInt ((i : Int) + 1), rawInt (-1)], #[]⟩) rfl
          rw [Heap.size_push, ← hJe] at this
          exact this
        generalize (h6.push ⟨.type "range", none, .fields #[.int (1 + (i : Int) - 1) (tk' + 1 + 1 + 1 + 1), .int (-1) (tk' + 1 + 1 + 1 + 1 + 1 + 1), .int (-1) (tk' + 1 + 1 + 1 + 1 + 1 + 1 + 1 + 1)], #[]⟩).push ⟨.type "range_iterator", none, .fields #[rawInt (1 + (i : Int) - 1), rawInt ((i : Int) + 1), rawInt (-1)], #[]⟩ = hh6 at *
        have hJF : J ≠ F := by intro e; have : @Eq Nat J F := e; omega
        have hJW : J ≠ W := by intro e; have : @Eq Nat J W := e; omega
        have hJI : J ≠ I := by intro e; have : @Eq Nat J I := e; omega
        have hJL : J ≠ env.locals := by intro e; have : @Eq Nat J env.locals := e; omega
        have hJs : @LE.le Nat instLENat s.heap.objs.size J := by omega
        have hgvl : gv.length = i + 1 := by rw [hg.length, asInts_len, hgl]
        refine codeAny_forLoop (fun k s' => ∃ h' tk' m j ws wv, s' = { s with heap := h', toks := tk' } ∧ Few s.heap h' env.locals r F n (cap + n.length + 7 : Nat) m ∧ IsRangeIter h' I (1 + (i : Int) + 1) ((row.length : Int) - i - 1) 1 ∧
          IsRangeIter h' J (1 + (i : Int) - 1 + (j : Nat) * (-1)) ((i : Int) + 1 - (j : Nat)) (-1) ∧ PL h' F gv.toArray ∧ PL h' W wv.toArray ∧ IntsAre wv (asInts ws) ∧ ws ++ waysOf row cap g (i + 1) (i + 1 - j) = waysOf row cap g (i + 1) (i + 1) ∧
          m (Str.ofString "ways") = some (.ref W) ∧ (∃ t, m (Str.ofString "stop") = some (.int (1 + (i : Int)) t)) ∧ j ≤ i + 1 ∧ ws.length = j ∧ k = i + 2 - j) ?_ (i + 2)
          ⟨hh6, _, m6, 0, [], [], rfl, hf6.kept kA, kA _ _ hit6, by simpa using hit, hF6.kept kA, hW6.kept kA, .nil, rfl, hwy6, ⟨_, hst6⟩, Nat.zero_le _, rfl, rfl⟩
        rintro k s' ⟨h', tk', m, j, ws, wv, rfl, hf, hitI, hitJ, hFj, hWj, hw, hwe, hwy, ⟨ts, hst⟩, hji, hwl, rfl⟩
        by_cases hlt2 : j < i + 1
        · refine wpAny_pyNext_range_item hitJ (by omega) fun h7 hit7 hs7 => ?_
          have hf7 := hf.but hJL hJs hs7
          refine wpAny_assign_Name (st_loc hf7.ns hkd k7 fun h8 hn8 hs8 => ?_)
          have hf8 := hf7.store hL hn8 hs8 (by decide +kernel) (by decide +kernel) (by decide +kernel) (by decide +kernel)
          have hF8 := (hFj.but hs7.extBut (Ne.symm hJF)).but hs8.extBut hFneL
          have hW8 := (hWj.but hs7.extBut (Ne.symm hJW)).but hs8.extBut hWL
          have hI8 := hs8.extBut _ _ hIL (hs7.extBut _ _ (Ne.symm hJI) hitI)
          have hJ8 := hs8.extBut _ _ hJL hit7
          have hsr8 : (fun z => if z = Str.ofString "start" then some (Value.int (1 + (i : Int) - 1 + (j : Nat) * (-1)) tk') else m z) (Str.ofString "start") = some (.int (1 + (i : Int) - 1 + (j : Nat) * (-1)) tk') := if_pos rfl
          have hst8 : (fun z => if z = Str.ofString "start" then some (Value.int (1 + (i : Int) - 1 + (j : Nat) * (-1)) tk') else m z) (Str.ofString "stop") = some (.int (1 + (i : Int)) ts) := (if_neg (by decide +kernel)).trans hst
          have hwy8 : (fun z => if z = Str.ofString "start" then some (Value.int (1 + (i : Int) - 1 + (j : Nat) * (-1)) tk') else m z) (Str.ofString "ways") = some (.ref W) := (if_neg (by decide +kernel)).trans hwy
          dsimp only at hf8
          generalize (fun z => if z = Str.ofString "start" then some (Value.int (1 + (i : Int) - 1 + (j : Nat) * (-1)) tk') else m z) = m8 at hf8 hsr8 hst8 hwy8
          clear hn8 hs8 hf7 hs7 hit7 hf hitI hitJ hFj hWj hwy hst
          obtain ⟨a, ha⟩ : ∃ a, a = i - j := ⟨_, rfl⟩
          have ea : 1 + (i : Int) - 1 + (j : Nat) * (-1) = (a : Int) := by omega
          have es : 1 + (i : Int) = ((i + 1 : Nat) : Int) := by omega
          rw [ea] at hsr8
          rw [es] at hst8
          have G₈ := G.keeps hf8.kp
          have hWd : (row.drop a).take (i + 1 - a) ≠ [] := by
            intro e
            have := congrArg List.length e
            rw [List.length_take, List.length_drop, List.length_nil] at this
            omega
          have hWl : ((row.drop a).take (i + 1 - a)).length ≤ 1000 := by rw [List.length_take, List.length_drop]; omega
          have hWc : ∀ c ∈ (row.drop a).take (i + 1 - a), c < 256 := fun c hc => hrow c (List.mem_of_mem_drop (List.mem_of_mem_take hc))
          refine wpAny_execs_cons (wpAny_If (wpAny_isTrue_Compare1 ?_))
          refine Call_Name1 (nm_blt (e2 ▸ G₈.g) G₈.n_len (e3 ▸ G₈.b) G₈.b_len ?_ hkd k9)
          refine callWith_builtin1 ?_
          refine Call_Name2 (nm_glob (e2 ▸ G₈.g) G₈.v_encode ?_ hkd k10)
          refine callWith_fn2 G₈.f_encode ?_
          refine Call_Name1 (nm_blt (e2 ▸ G₈.g) G₈.n_bytes (e3 ▸ G₈.b) G₈.b_bytes ?_ hkd k11)
          refine callWith_type1 ?_
          refine wpAny_Subscript_list_slice (nm_loc hf8.ns hf8.row ?_ hkd k1)
          refine evalPart_some_step (nm_loc hf8.ns hsr8 ?_ hkd k7)
          refine evalPart_some_step (nm_loc hf8.ns hst8 ?_ hkd k5)
          refine ⟨r, vs.toArray, some (a : Int), some ((i + 1 : Nat) : Int), rfl, hl.at fun o e => hf8.kp _ _ e, by rw [List.size_toArray, hsz, sizeLine_eq]; omega, .int _ _, .int _ _, ?_⟩
          rw [slicePick_run _ a (i + 1) (by rw [List.size_toArray, hsz]; omega) (by omega)]
          dsimp only
          have kB : Kp h8 ((h8.push ⟨.type "slice", none, .fields #[.int (a : Int) tk', .int ((i + 1 : Nat) : Int) ts, .none], #[]⟩).push ⟨.type "list", none, .seq ((vs.toArray.toList.drop a).take (i + 1 - a)).toArray 0, #[]⟩) := (Kp.refl h8).push _ |>.push _
          have hLs : Heap.IsList ((h8.push ⟨.type "slice", none, .fields #[.int (a : Int) tk', .int ((i + 1 : Nat) : Int) ts, .none], #[]⟩).push ⟨.type "list", none, .seq ((vs.toArray.toList.drop a).take (i + 1 - a)).toArray 0, #[]⟩) (h8.objs.size + 1) ((vs.toArray.toList.drop a).take (i + 1 - a)).toArray := by
            have := (PL.new (h8.push ⟨.type "slice", none, .fields #[.int (a : Int) tk', .int ((i + 1 : Nat) : Int) ts, .none], #[]⟩) ((vs.toArray.toList.drop a).take (i + 1 - a)).toArray).isList
            rw [Heap.size_push] at this
            exact this
          generalize (h8.push ⟨.type "slice", none, .fields #[.int (a : Int) tk', .int ((i + 1 : Nat) : Int) ts, .none], #[]⟩).push ⟨.type "list", none, .seq ((vs.toArray.toList.drop a).take (i + 1 - a)).toArray 0, #[]⟩ = h9 at kB hLs ⊢
          have hia : IntsAre ((vs.toArray.toList.drop a).take (i + 1 - a)) (asInts ((row.drop a).take (i + 1 - a))) := by
            rw [← asInts_slice]; exact (hi.drop a).take _
          refine call_bytes_ints hLs hia (asInts_byte hWc) (by rw [hia.length, asInts_len, sizeLine_eq]; omega) R.hh fun h10 t10 tk10 hk10 => ?_
          have kC : Kp h8 h10 := kB.trans hk10
          rw [byteArr_asInts]
          have hf10 := hf8.kept kC
          obtain ⟨tn, hnm⟩ := hf10.name
          refine nm_loc hf10.ns hnm ⟨kC, ?_⟩ hkd k2
          refine encode_spec (G.keeps hf10.kp) ((R.deeper (env := env)).less (by omega)) hWc hWd hWl hn fun h11 tk11 t11 hk11 => ?_
          have kD : Kp h8 h11 := kC.trans hk11
          have hf11 := hf8.kept kD
          have hel := encName_len n ((row.drop a).take (i + 1 - a))
          have hcl : cost ((row.drop a).take (i + 1 - a)) ≤ 3000 := by
            have := pieces_le ((row.drop a).take (i + 1 - a))
            unfold cost; omega
          refine P.len_str (by omega) ?_
          obtain ⟨tl, hlm⟩ := hf11.limit
          refine nm_loc hf11.ns hlm ?_ hkd k3
          refine gt_int ?_
          refine wpAny_truthy_bool ?_
          rw [hel]
          have ew : waysOf row cap g (i + 1) (i + 1 - j) = if cap < cost ((row.drop a).take (i + 1 - a)) then [] else (g.getD a 0 + 1) :: waysOf row cap g (i + 1) a := by
            rw [show i + 1 - j = a + 1 by omega]; rfl
          by_cases hbr : cap < cost ((row.drop a).take (i + 1 - a))
          · rw [if_pos (by simp only [decide_eq_true_eq]; omega)]
            refine wpAny_execs_cons (wpAny_Break ?_)
            rw [if_pos hbr] at ew
            rw [ew, List.append_nil] at hwe
            refine ⟨h11, _, m8, wv, rfl, rfl, hf11, kD _ _ hI8, hF8.kept kD, hW8.kept kD, ?_, hwy8⟩
            rw [← hwe]; exact hw
          · rw [if_neg (by simp only [decide_eq_true_eq]; omega)]
            rw [if_neg hbr] at ew
            refine wpAny_execs_nil ?_
            dsimp only
            refine wpAny_execs_cons (app_stmt hkd k6 hf11.ns hwy8 (hW8.kept kD) (by decide +kernel) ?_)
            refine wpAny_BinOp ?_
            refine Subscript_ (nm_loc hf11.ns hf11.few ?_ hkd k4)
            refine nm_loc hf11.ns hsr8 ?_ hkd k7
            refine item_list_intsR (hF8.kept kD).isList hg (by omega) (by rw [asInts_len]; omega) (by omega) fun tt => ?_
            rw [Int.toNat_natCast, asInts_getD _ _ (by omega)]
            refine wpAny_Constant_int ?_
            refine add_int ?_
            have hwvl : wv.length = j := by rw [hw.length, asInts_len, hwl]
            refine ⟨_, hW8.kept kD, by rw [List.size_toArray]; omega, fun h12 hW12 hs12 => wpAny_execs_nil ?_⟩
            refine ⟨i + 2 - (j + 1), by omega, h12, _, m8, j + 1, ws ++ [g.getD a 0 + 1], _, rfl, hf11.but hWL hWs hs12, hs12.extBut _ _ (Ne.symm hWI) (kD _ _ hI8), ?_, (hF8.kept kD).but hs12.extBut (Ne.symm hWF), by rw [List.push_toArray] at hW12; exact hW12, ?_, ?_, hwy8, ⟨ts, by rw [es]; exact hst8⟩, by omega, by rw [List.length_append, hwl]; rfl, rfl⟩
            · have e1 : 1 + (i : Int) - 1 + ((j + 1 : Nat) : Int) * (-1) = 1 + (i : Int) - 1 + (j : Nat) * (-1) + -1 := by omega
              have e2 : (i : Int) + 1 - ((j + 1 : Nat) : Int) = (i : Int) + 1 - (j : Nat) - 1 := by omega
              rw [e1, e2]
              exact hs12.extBut _ _ hJW (kD _ _ hJ8)
            · rw [asInts_snoc]
              exact hw.append (.cons _ _ .nil)
            · rw [show i + 1 - (j + 1) = a by omega, List.append_assoc, ← hwe, ew]; rfl
        · obtain rfl : j = i + 1 := by omega
          refine wpAny_pyNext_range_end R.hh hitJ (by omega) fun h7 he7 => wpAny_execs_nil ?_
          rw [Nat.sub_self] at hwe
          refine ⟨h7, _, m, wv, rfl, rfl, ?_, he7 _ _ (Ne.symm hJI) hitI, hFj.but he7 (Ne.symm hJF), hWj.but he7 (Ne.symm hJW), ?_, hwy⟩
          · exact { hf with ns := hf.ns.extBut he7 (Ne.symm hJL), kp := fun b o e => he7 b o (fun e' => absurd (Heap.lt_size e) (by rw [e']; exact Nat.not_lt.mpr hJs)) (hf.kp b o e) }
          · have : ws = waysOf row cap g (i + 1) (i + 1) := by rw [← hwe]; exact (List.append_nil ws).symm
            rw [← this]; exact hw
      · rintro res s' ⟨h7, tk7, m7, wv, rfl, rfl, hf7, hit7, hF7, hW7, hw7, hwy7⟩
        have G₇ := G.keeps hf7.kp
        refine wpAny_execs_cons (app_stmt hkd k4 hf7.ns hf7.few hF7 (by decide +kernel) ?_)
        refine Call_Name1 (nm_blt (e2 ▸ G₇.g) G₇.n_min (e3 ▸ G₇.b) G₇.b_min ?_ hkd k12)
        refine callWith_builtin1 (nm_loc hf7.ns hwy7 ?_ hkd k6)
        refine min_wp R.hh hW7.isList hw7 (waysOf_ne hlt hcap) fun h8 M t8 tk8 hk8 hM => ?_
        have hgvl : gv.length = i + 1 := by rw [hg.length, asInts_len, hgl]
        refine ⟨_, hF7.kept hk8, by rw [List.size_toArray]; omega, fun h9 hF9 hs9 => wpAny_execs_nil ?_⟩
        refine ⟨row.length + 1 - (i + 1), by omega, h9, tk8, m7, i + 1, g ++ [M], gv ++ [.int (M : Nat) t8], rfl, (hf7.kept hk8).but hFneL hFL hs9, ?_, ?_, ?_, hd.snoc (by omega) (by rw [hgl]; exact hM), by rw [List.length_append, hgl]; rfl, hlt, rfl⟩
        · have e1 : (1 : Int) + ((i + 1 : Nat) : Int) = 1 + (i : Int) + 1 := by omega
          have e2 : (row.length : Int) - ((i + 1 : Nat) : Int) = (row.length : Int) - i - 1 := by omega
          rw [e1, e2]
          exact hs9.extBut _ _ hIF (hk8 _ _ hit7)
        · rw [← List.push_toArray]; exact hF9
        · rw [asInts_snoc]; exact hg.append (.cons _ _ .nil)
    · obtain rfl : i = row.length := by omega
      refine wpAny_pyNext_range_end (R.hh) hit (by omega) fun h4 he4 => wpAny_execs_nil ?_
      refine ⟨h4, _, m, g, gv, rfl, rfl, ?_, hF'.but he4 (Ne.symm hIF), hg, hd, hgl⟩
      exact { hf with ns := hf.ns.extBut he4 (Ne.symm hIL), kp := fun b o e => he4 b o (fun e' => absurd (Heap.lt_size e) (by rw [e']; exact Nat.not_lt.mpr hIs)) (hf.kp b o e) }
  · rintro res s' ⟨h', tk', m, g, gv, rfl, rfl, hf', hF', hg, hd, hgl⟩
    refine wpAny_execs_cons (wpAny_Return_some ?_)
    refine Subscript_ (nm_loc hf'.ns hf'.few ?_ hkd k4)
    refine UnaryOp_ (wpAny_Constant_int (neg_int ?_))
    refine item_list_ints_negR hF'.isList hg (by decide) (by simp [asInts]; omega) (by decide) fun tt => ?_
    have e : (asInts g).getD (-1 + ((asInts g).length : Int)).toNat 0 = ((g.getD row.length 0 : Nat) : Int) := by
      have : (-1 + ((asInts g).length : Int)).toNat = row.length := by rw [asInts_len]; omega
      rw [this, asInts_getD _ _ (by omega)]
    rw [e]
    exact h _ _ _ g hf'.kp hd hgl
end
end Mine
end

section
open PySem PySem.W PyProof.Rows PySem.Calls
set_option Elab.async false
set_option maxRecDepth 100000
namespace Mine
theorem paired_filter {F : Value → Value → Prop} {vs : List Value} {ys : List Value} {items : Array Value} (h : Paired F (vs.filter fun _ => true) ys) (hl : vs.length = items.size) (hp : ∀ (j : Nat) (v : Value), vs[j]? = some v → items[j]? = some v) : Paired F items.toList ys := by
  have e : vs = items.toList := by
    apply List.ext_getElem?
    intro j
    by_cases hj : j < vs.length
    · have := hp j _ (List.getElem?_eq_getElem hj)
      rw [List.getElem?_eq_getElem hj, Array.getElem?_toList, this]
    · rw [List.getElem?_eq_none (by omega), List.getElem?_eq_none (by rw [Array.length_toList]; omega)]
  have f : vs.filter (fun _ => true) = vs := List.filter_eq_self.mpr fun _ _ => rfl
  rw [f, e] at h
  exact h
section
variable {prog : Program} {w : World} {A : Around} {E : Value → Shared → Prop} {s : Shared} {env : Env}
/-- a comprehension over a list, its part a quiet expression -/
theorem comp_eval {elt iter : Expr} {x : Str} {px : Pos} {scope : Scope} {cl : List (Str × Addr)} {pos : Pos} {Q : Value → Shared → Prop} (F : Value → Value → Prop) (hh : A.handled = none)
    (hclos : closureFor scope env = pure cl) (hcell : ∀ y ∈ scope.names, y.2 ≠ .cell) (hkind : scope.kind = .function)
    (hnames : ∀ y ∈ scope.names, y.2 = .local → scope.names.lookup y.1 = some .local) (hx : scope.names.lookup x = some .local)
    (h : wpAny (model prog w) A (eval iter env) (fun xv s₁ => ∃ ax items, xv = .ref ax ∧ s₁.heap.IsList ax items ∧ items.size ≤ 100000 ∧
      (∀ C v s₃ m₃ E', s₁.heap.objs.size ≤ C → v ∈ items → s₃.heap.Ns C m₃ → m₃ x = some v → Kp s₁.heap s₃.heap → wpAny (model prog w) A (eval elt (compEnvC scope cl C env)) (fun y s₄ => F v y ∧ Keeps s₃ s₄) E' s₃) ∧
      (∀ D h' tk ys, s₁.heap.get? D = none → PL h' D ys → Paired F items.toList ys.toList → Kp s₁.heap h' → Q (.ref D) { s₁ with heap := h', toks := tk })) E s)
    (hs : ∀ x, foldedSetIterable iter env x = pure x := by intro _; rfl) :
    wpAny (model prog w) A (eval (.ListComp elt [⟨.Name x px, iter, [], 0⟩] scope pos) env) Q E s := by
  refine wpAny_ListComp_free (p := fun _ => true) F hclos hcell hkind hnames hx (wpAny_mono h (fun xv s₁ h₁ => ?_) fun _ _ e => e) hs
  obtain ⟨ax, items, rfl, hl, hsz, helt, hQ⟩ := h₁
  have hlt : @LT.lt Nat instLTNat ax s₁.heap.objs.size := let ⟨_, e, _⟩ := hl; Heap.lt_size e
  refine wpAny_pyIter_list hl ?_
  have hk : Kp s₁.heap (s₁.heap.push { cls := .type "list_iterator", data := .fields #[.ref ax, .int 0 0] }) := (Kp.refl _).push _
  have old : ∀ {h' : Heap}, (∀ b o, b ∉ [s₁.heap.objs.size] → (s₁.heap.push { cls := .type "list_iterator", data := .fields #[.ref ax, .int 0 0] }).get? b = some o → h'.get? b = some o) → Kp s₁.heap h' := fun hk' b o e =>
    hk' b o (fun hm => absurd (Heap.lt_size e) (by rw [List.mem_singleton.mp hm]; exact Nat.lt_irrefl _)) (hk _ _ e)
  refine ⟨s₁.heap.objs.size, _, _, _, _, _, rfl, Walks.list hh _ ax (Nat.ne_of_lt hlt) items, by rw [sizeLine_eq]; omega, ⟨⟨_, Heap.get?_push_size _ rfl, rfl, rfl⟩, hl.push _⟩, fun b hb => ?_, ⟨fun C i v s₃ m₃ E' hC hP hn hm hk' _ => ?_, fun C i v s₃ m₃ E' hC hP _ hn hm hk' _ => ?_⟩, fun D h' tk ys vs hD hl' hpl hlen hP hF hk' => ?_⟩
  · show b < (s₁.heap.push _).objs.size
    rw [Heap.size_push]
    rcases List.mem_cons.mp hb with rfl | hb
    · exact Nat.lt_succ_self _
    · rcases List.mem_cons.mp hb with rfl | hb
      · exact Nat.lt_succ_of_lt hlt
      · cases hb
  · exact wpAny_pure ⟨rfl, s₃.heap, s₃.toks, rfl, fun _ _ e => e⟩
  · refine helt C v s₃ m₃ E' ?_ (Array.mem_of_getElem? hP) hn hm (old hk')
    have : (s₁.heap.push { cls := Value.type "list_iterator", data := Data.fields #[Value.ref ax, Value.int 0 0] }).objs.size ≤ C := hC
    rw [Heap.size_push] at this
    exact Nat.le_of_succ_le this
  · obtain ⟨n, e⟩ := hpl
    refine hQ D h' tk ys ?_ ⟨_, e, rfl, rfl, n, rfl⟩ (paired_filter hF hlen hP) (old hk')
    cases e' : s₁.heap.get? D with
    | none => rfl
    | some o => exact absurd (hD.symm.trans (hk _ _ e')) (by simp)

theorem comp_assign {elt iter : Expr} {x y : Str} {px py : Pos} {scope : Scope} {cl : List (Str × Addr)} {pos spos : Pos} {Q : Flow → Shared → Prop} {m : Str → Option Value} (F : Value → Value → Prop) (hh : A.handled = none)
    (hsw : swapsWith (.ListComp elt [⟨.Name x px, iter, [], 0⟩] scope pos) (some (.Name y py)) spos.line env = pure true)
    (hclos : closureFor scope env = pure cl) (hcell : ∀ z ∈ scope.names, z.2 ≠ .cell) (hkind : scope.kind = .function)
    (hnames : ∀ z ∈ scope.names, z.2 = .local → scope.names.lookup z.1 = some .local) (hx : scope.names.lookup x = some .local)
    (hy : env.kindOf y = some .local) (hp : (env.scope.kind == .class || (env.scope.kind == .module && env.locals != env.globals)) = false)
    (h : wpAny (model prog w) A (eval iter env) (fun xv s₁ => ∃ ax items, xv = .ref ax ∧ s₁.heap.IsList ax items ∧ items.size ≤ 100000 ∧ s₁.heap.Ns env.locals m ∧
      (∀ C v s₃ m₃ E', s₁.heap.objs.size ≤ C → v ∈ items → s₃.heap.Ns C m₃ → m₃ x = some v → Kp s₁.heap s₃.heap → wpAny (model prog w) A (eval elt (compEnvC scope cl C env)) (fun y s₄ => F v y ∧ Keeps s₃ s₄) E' s₃) ∧
      (∀ D h' tk ys, s₁.heap.get? D = none → PL h' D ys → Paired F items.toList ys.toList → h'.Ns env.locals (fun z => if z = y then some (.ref D) else m z) → (∀ b o, b ≠ env.locals → s₁.heap.get? b = some o → h'.get? b = some o) →
        Q .next { s₁ with heap := h', toks := tk })) E s)
    (hs : ∀ x, foldedSetIterable iter env x = pure x := by intro _; rfl) :
    wpAny (model prog w) A (exec (.Assign [.Name y py] (.ListComp elt [⟨.Name x px, iter, [], 0⟩] scope pos) spos) env) Q E s := by
  refine wpAny_Assign_ListComp_free (p := fun _ => true) F hsw hclos hcell hkind hnames hx hy hp (wpAny_mono h (fun xv s₁ h₁ => ?_) fun _ _ e => e) hs
  obtain ⟨ax, items, rfl, hl, hsz, hns, helt, hQ⟩ := h₁
  have hlt : @LT.lt Nat instLTNat ax s₁.heap.objs.size := let ⟨_, e, _⟩ := hl; Heap.lt_size e
  have hLlt : @LT.lt Nat instLTNat env.locals s₁.heap.objs.size := let ⟨_, _, _, e, _⟩ := hns; Heap.lt_size e
  refine wpAny_pyIter_list hl ?_
  have hk : Kp s₁.heap (s₁.heap.push { cls := .type "list_iterator", data := .fields #[.ref ax, .int 0 0] }) := (Kp.refl _).push _
  have ne : ∀ b o, s₁.heap.get? b = some o → b ∉ [s₁.heap.objs.size] := fun b o e hm => absurd (Heap.lt_size e) (by rw [List.mem_singleton.mp hm]; exact Nat.lt_irrefl _)
  refine ⟨s₁.heap.objs.size, _, _, _, _, _, m, rfl, Walks.list hh _ ax (Nat.ne_of_lt hlt) items, by rw [sizeLine_eq]; omega, ⟨⟨_, Heap.get?_push_size _ rfl, rfl, rfl⟩, hl.push _⟩, fun b hb => ?_, fun hm => absurd (List.mem_singleton.mp hm) (Nat.ne_of_lt hLlt), hns.push _,
    ⟨fun C i v s₃ m₃ E' hC hP hn hm hk' _ => ?_, fun C i v s₃ m₃ E' hC hP _ hn hm hk' _ => ?_⟩, fun D h' tk ys vs hD hl' hpl hlen hP hF hns' hk' => ?_⟩
  · show b < (s₁.heap.push _).objs.size
    rw [Heap.size_push]
    rcases List.mem_cons.mp hb with rfl | hb
    · exact Nat.lt_succ_self _
    · rcases List.mem_cons.mp hb with rfl | hb
      · exact Nat.lt_succ_of_lt hlt
      · cases hb
  · exact wpAny_pure ⟨rfl, s₃.heap, s₃.toks, rfl, fun _ _ e => e⟩
  · refine helt C v s₃ m₃ E' ?_ (Array.mem_of_getElem? hP) hn hm (fun b o e => hk' b o (ne b o e) (hk _ _ e))
    have : (s₁.heap.push { cls := Value.type "list_iterator", data := Data.fields #[Value.ref ax, Value.int 0 0] }).objs.size ≤ C := hC
    rw [Heap.size_push] at this
    exact Nat.le_of_succ_le this
  · obtain ⟨n, e⟩ := hpl
    refine hQ D h' tk ys ?_ ⟨_, e, rfl, rfl, n, rfl⟩ (paired_filter hF hlen hP) hns' (fun b o hb e => hk' b o hb (ne b o e) (hk _ _ e))
    cases e' : s₁.heap.get? D with
    | none => rfl
    | some o => exact absurd (hD.symm.trans (hk _ _ e')) (by simp)
end
end Mine
end

section
open PySem PySem.W PyProof.Rows PySem.Calls
set_option Elab.async false
set_option maxRecDepth 100000
namespace Mine
section
variable {prog : Program} {w : World} {A : Around} {E : Value → Shared → Prop} {s : Shared}
/-- a store at a list's last place, written as -1 -/
theorem setItem_last {l : Addr} {items : Array Value} {t : Tok} {v : Value} {Q : Unit → Shared → Prop} (hp : PL s.heap l items) (h0 : 0 < items.size)
    (hQ : ∀ h', PL h' l (items.setIfInBounds (items.size - 1) v) → Heap.SameBut l s.heap h' → Q () { s with heap := h' }) :
    wpAny (model prog w) A (setItem (.ref l) (.int (-1) t) v) Q E s := by
  have hl := hp.isList
  obtain ⟨o, ho, hc, hdi, ne, hd⟩ := id hp
  unfold setItem
  try with_reducible refine wpAny_holding ?_
  first | refine wpAny_bind (wpAny_pure ?_) | skip
  refine wpAny_bind (wpAny_sequenceKey hl.typeIs (by decide) ?_)
  refine wpAny_bind (wpAny_callSpecial?_slot (name := Str.ofString "__setitem__") hl.typeIs slot_list_setitem
    (wpAny_call_entry slot_list_setitem hl.typeIs entry_list_setitem ?_ (args_list_setitem _ _ _)))
  show wpAny _ _ (Builtin.List.listSubscript? (.int (-1) t) >>= _) _ _ s
  refine wpAny_bind (wpAny_listSubscript_int (fitsIndex_neg (by decide) (by decide)) ?_)
  have hidx : seqIndex? (-1) items.size = some (items.size - 1) := by
    rw [seqIndex_neg (by decide) (by omega)]
    congr 1; omega
  have hx : items[items.size - 1]? = some items[items.size - 1] := Array.getElem?_eq_getElem (by omega)
  show wpAny _ _ ((Builtin.List.listItems (.ref l) >>= fun xs => pure ((seqIndex? (-1) xs.size).bind fun i => xs[i]?.map (i, ·))) >>= _) _ _ s
  refine wpAny_bind (wpAny_bind ?_)
  show wpAny _ _ (seqItems? (.ref l) >>= _) _ _ s
  refine wpAny_bind (wpAny_seqItems ho hd (wpAny_pure (wpAny_pure ?_)))
  rw [hidx]
  simp only [Option.bind_some, hx, Option.map_some]
  show wpAny _ _ (setSeqItemAt l (items.size - 1) v >>= _) _ _ s
  obtain ⟨c, d, dt, sl⟩ := o
  simp only at hd hc hdi
  subst hd hc hdi
  have hfin : PL (s.heap.update l (Obj.mapSeq (·.setIfInBounds (items.size - 1) v))) l (items.setIfInBounds (items.size - 1) v) := ⟨_, Heap.get?_update_self _ ho rfl, rfl, rfl, _, rfl⟩
  refine wpAny_bind (wpAny_setSeqItemAt ho rfl ?_)
  first
    | exact wpAny_bind (wpAny_pure (wpAny_pure ⟨.none, rfl, wpAny_pure (hQ _ hfin (Heap.SameBut.update ..))⟩))
    | exact wpAny_pure ⟨.none, rfl, wpAny_pure (hQ _ hfin (Heap.SameBut.update ..))⟩
end
end Mine
end

section
open PySem PySem.W PyProof.Rows PySem.Calls
set_option Elab.async false
set_option maxRecDepth 100000
set_option maxHeartbeats 8000000
namespace Mine
def names3 : List Str := [Str.ofString "utf-8", Str.ofString "iso-8859-1", Str.ofString "x"]
def firstOf (xs : List Int) : Int := (xs ++ [0]).getD 0 0
def nameOf (x : Int) : Str := names3.getD (x.fmod 3).toNat Str.empty
def capOf (x : Int) : Nat := 3 + ((x.fdiv 3).fmod 7).toNat
theorem nameOf_len (x : Int) : (nameOf x).length ≤ 10 := by
  unfold nameOf
  have : ∀ i, (names3.getD i Str.empty).length ≤ 10 := by
    intro i
    match i with
    | 0 => decide +kernel
    | 1 => decide +kernel
    | 2 => decide +kernel
    | i + 3 => rw [show names3.getD (i + 3) Str.empty = Str.empty from rfl]; decide
  exact this _

/-- what stands behind the names' cell through the law's own body -/
structure LawIn (h₀ h : Heap) (L : Addr) (n : Str) (lim : Int) (r : Addr) (row : List Nat) (m : Str → Option Value) : Prop where
  ns : h.Ns L m
  kp : Kp h₀ h
  cell : ∃ t, h.IsCell (L + 1) (some (.str n t))
  limit : ∃ t, m (Str.ofString "limit") = some (.int lim t)
  rowN : m (Str.ofString "row") = some (.ref r)
  rowv : ∃ vs, PL h r vs.toArray ∧ IntsAre vs (asInts row)
theorem LawIn.kept {h₀ h h' : Heap} {L r : Addr} {n : Str} {lim : Int} {row : List Nat} {m : Str → Option Value} (x : LawIn h₀ h L n lim r row m) (hk : Kp h h') : LawIn h₀ h' L n lim r row m :=
  { x with ns := x.ns.keeps hk, kp := x.kp.trans hk, cell := let ⟨t, c⟩ := x.cell; ⟨t, c.keeps hk⟩, rowv := let ⟨vs, a, b⟩ := x.rowv; ⟨vs, a.kept hk, b⟩ }
theorem LawIn.but {h₀ h h' : Heap} {L r l : Addr} {n : Str} {lim : Int} {row : List Nat} {m : Str → Option Value} (x : LawIn h₀ h L n lim r row m) (hl : l ≠ L) (hc : l ≠ L + 1) (hr : l ≠ r) (hL : h₀.objs.size ≤ l) (hs : Heap.SameBut l h h') : LawIn h₀ h' L n lim r row m :=
  { x with ns := x.ns.sameBut hs (Ne.symm hl), kp := x.kp.st hL hs, cell := let ⟨t, c⟩ := x.cell; ⟨t, c.sameBut hs (Ne.symm hc)⟩, rowv := let ⟨vs, a, b⟩ := x.rowv; ⟨vs, a.but hs.extBut (Ne.symm hr), b⟩ }
theorem LawIn.store {h₀ h h' : Heap} {L r : Addr} {n : Str} {lim : Int} {row : List Nat} {m : Str → Option Value} {y : Str} {v : Value} (x : LawIn h₀ h L n lim r row m) (hL : h₀.objs.size ≤ L) (hr : r ≠ L)
    (hn : h'.Ns L fun z => if z = y then some v else m z) (hs : Heap.SameBut L h h') (h1 : Str.ofString "limit" ≠ y) (h2 : Str.ofString "row" ≠ y) :
    LawIn h₀ h' L n lim r row fun z => if z = y then some v else m z where
  ns := hn
  kp := x.kp.st hL hs
  cell := let ⟨t, c⟩ := x.cell; ⟨t, c.sameBut hs (Nat.succ_ne_self L)⟩
  limit := by rw [if_neg h1]; exact x.limit
  rowN := by rw [if_neg h2]; exact x.rowN
  rowv := let ⟨vs, a, b⟩ := x.rowv; ⟨vs, a.but hs.extBut hr, b⟩


structure Ks (env : Env) : Prop where
  sc : env.scope = scopeAt 24
  g : env.globals = mainGlobals
  b : env.builtins = builtinsNs
  nm : env.cells.lookup (Str.ofString "name") = some (env.locals + 1)
theorem Ks.kind {env : Env} (x : Ks env) : env.scope.kind = .function := by rw [x.sc]; rfl
theorem Ks.loc {env : Env} (x : Ks env) {y : Str} (h : (scopeAt 24).names.lookup y = some .local := by decide +kernel) : env.kindOf y = some .local := by unfold Env.kindOf; rw [x.sc]; exact h
theorem Ks.glob {env : Env} (x : Ks env) {y : Str} (h : (scopeAt 24).names.lookup y = some .globalImplicit := by decide +kernel) : env.kindOf y = some .globalImplicit := by unfold Env.kindOf; rw [x.sc]; exact h
theorem Ks.cell {env : Env} (x : Ks env) : env.kindOf (Str.ofString "name") = some .cell := by unfold Env.kindOf; rw [x.sc]; decide +kernel
theorem nm_cell {M : Model} {A : Around} {E : Value → Shared → Prop} {s : Shared} {env : Env} {pos : Pos} {v : Value} {Q : Value → Shared → Prop} (x : Ks env) (hc : s.heap.IsCell (env.locals + 1) (some v)) (h : Q v s) : wpAny M A (eval (.Name (Str.ofString "name") pos) env) Q E s :=
  wpAny_Name (wpAny_loadName_cell x.kind x.cell x.nm hc h) (by decide +kernel)

section
variable {prog : Program} {w : World} {A : Around} {E : Value → Shared → Prop} {s : Shared} {Q : Value → Shared → Prop} {mg mb : Str → Option Value}
theorem sw_true {env : Env} {elt : Expr} {gs : List Comprehension} {sco : Scope} {pos py : Pos} {y : Str} {line : Nat} (hkd : env.scope.kind = .function) (hy : env.kindOf y = some .local)
    (h : (py.line == pos.line && !(sco.names.any fun x => x.1 == y && (x.2 == .local || x.2 == .cell))) = true) : swapsWith (.ListComp elt gs sco pos) (some (.Name y py)) line env = pure true := by
  show (pure (env.blockKind == .function && env.kindOf y == some .local && py.line == pos.line && !(sco.names.any fun x => x.1 == y && (x.2 == .local || x.2 == .cell))) : Sem Bool) = pure true
  have hb : env.blockKind = .function := by unfold Env.blockKind; rw [hkd]; rfl
  rw [hb, hy]
  exact congrArg pure h
theorem add_wp {l b : Addr} {vs ws : List Value} (hl : s.heap.IsList l vs.toArray) (hb : s.heap.IsList b ws.toArray) (hsz : vs.length + ws.length ≤ 100000)
    (h : Q (.ref s.heap.objs.size) { s with heap := s.heap.push ⟨.type "list", none, .seq (vs ++ ws).toArray 0, #[]⟩ }) : wpAny (model prog w) A (binaryOp .Add (.ref l) (.ref b)) Q E s := by
  obtain ⟨⟨cls, dd, data, sl⟩, ho, hc, n, hd⟩ := hl
  obtain ⟨⟨cls2, dd2, data2, sl2⟩, ho2, hc2, n2, hd2⟩ := hb
  simp only at hc hd hc2 hd2
  subst hc hd hc2 hd2
  have e : vs.toArray ++ ws.toArray = (vs ++ ws).toArray := by simp
  refine concat_meets ⟨_, ho, rfl⟩ ⟨_, ho2, rfl⟩ noFill_list_add seq_list_add PySem.F.slot_list_add PySem.F.entry_list_add (PySem.F.args_list_add_2 _ _) (list_addW l b vs.toArray ws.toArray n n2 dd dd2 sl sl2 (by rw [sizeLine_eq]; simp; omega)) ⟨ho, ho2, ?_⟩
  rw [e]
  exact h
theorem sp3 {M : Model} {env : Env} {pos : Pos} {e₁ e₂ e₃ : Expr} {Q : List Value → Shared → Prop} (h : wpAny M A (eval e₁ env) (fun v₁ s₁ => wpAny M A (eval e₂ env) (fun v₂ s₂ => wpAny M A (eval e₃ env) (fun v₃ s₃ => Q [v₁, v₂, v₃] s₃) E s₂) E s₁) E s)
    (hs : starEach [e₁, e₂, e₃] env = [(false, eval e₁ env), (false, eval e₂ env), (false, eval e₃ env)] := by rfl) : wpAny M A (spliced (backTo pos (starEach [e₁, e₂, e₃] env))) Q E s := by
  rw [hs]
  exact Calls.spliced_cons (wpAny_mono h (fun _ _ h₁ => Calls.spliced_cons (wpAny_mono h₁ (fun _ _ h₂ => Calls.spliced_cons (wpAny_mono h₂ (fun _ _ h₃ => Calls.spliced_nil h₃) fun _ _ e => e)) fun _ _ e => e)) fun _ _ e => e)

theorem law_pro {env : Env} {sc : Addr} {vs : List Value} {xs : List Int} {m0 : Str → Option Value} {h₀ : Heap} {Q : Flow → Shared → Prop} (G0 : Gl mg mb h₀) (R : Rm A 19) (K : Ks env) (hk : Kp h₀ s.heap) (hL : h₀.objs.size ≤ env.locals) (hn0 : s.heap.Ns env.locals m0) (hcell : s.heap.IsCell (env.locals + 1) none)
    (hsc : m0 (Str.ofString "script") = some (.ref sc)) (hl : h₀.IsList sc vs.toArray) (hi : IntsAre vs xs) (hlen : xs.length ≤ 63)
    (h : ∀ h' tk r Wd Sz m, LawIn h₀ h' env.locals (nameOf (firstOf xs)) (capOf (firstOf xs) + (nameOf (firstOf xs)).length + 7 : Nat) r (xs.map octet) m → m (Str.ofString "words") = some (.ref Wd) → m (Str.ofString "sizes") = some (.ref Sz) → PL h' Wd #[] → PL h' Sz #[] →
      (h₀.objs.size ≤ Wd ∧ Wd ≠ env.locals ∧ Wd ≠ env.locals + 1) → (h₀.objs.size ≤ Sz ∧ Sz ≠ env.locals ∧ Sz ≠ env.locals + 1) → r ≠ env.locals → Wd ≠ r → Sz ≠ r → Wd ≠ Sz → wpAny (model prog w) A (execs ((bodyAt 24).drop 7) env) Q E { s with heap := h', toks := tk }) :
    wpAny (model prog w) A (execs (bodyAt 24) env) Q E s := by
  have hkd := K.kind
  refine wpAny_execs_cons (wpAny_Assign_Name ?_ (by rfl))
  refine wpAny_Subscript_list_slice (nm_loc hn0 hsc ?_ hkd K.loc)
  refine evalPart_none_step ?_
  refine evalPart_some_step (wpAny_Constant_int ?_)
  have hsz : vs.length = xs.length := hi.length
  refine ⟨sc, vs.toArray, none, some 100, rfl, hl.at fun o e => hk _ _ e, by rw [List.size_toArray, sizeLine_eq]; omega, .none, .int _ _, ?_⟩
  have epick : slicePick vs.toArray none (some 100) none = vs.toArray := by
    rw [slicePick_plain]
    have e : (some (100 : Int)).elim vs.toArray.size (clipAt vs.toArray.size) = vs.toArray.size := by
      show clipAt vs.toArray.size 100 = _
      unfold clipAt
      rw [List.size_toArray]
      omega
    rw [e]
    simp
  rw [epick]
  dsimp only
  have hcl0 : @LT.lt Nat instLTNat (env.locals + 1) s.heap.objs.size := let ⟨_, e, _⟩ := hcell; Heap.lt_size e
  have kA : Kp s.heap ((s.heap.push ⟨.type "slice", none, .fields #[.none, .int 100 s.toks, .none], #[]⟩).push ⟨.type "list", none, .seq vs.toArray 0, #[]⟩) := (Kp.refl _).push _ |>.push _
  have hP1 : PL ((s.heap.push ⟨.type "slice", none, .fields #[.none, .int 100 s.toks, .none], #[]⟩).push ⟨.type "list", none, .seq vs.toArray 0, #[]⟩) (s.heap.objs.size + 1) vs.toArray := by
    have := PL.new (s.heap.push ⟨.type "slice", none, .fields #[.none, .int 100 s.toks, .none], #[]⟩) vs.toArray
    rw [Heap.size_push] at this
    exact this
  generalize (s.heap.push ⟨.type "slice", none, .fields #[.none, .int 100 s.toks, .none], #[]⟩).push ⟨.type "list", none, .seq vs.toArray 0, #[]⟩ = h1 at kA hP1 ⊢
  obtain ⟨S1, hS1⟩ : ∃ S1 : Nat, S1 = s.heap.objs.size + 1 := ⟨_, rfl⟩
  rw [← hS1] at hP1 ⊢
  have hS1L : S1 ≠ env.locals := by intro e; have : @Eq Nat S1 env.locals := e; omega
  refine st_loc (hn0.keeps kA) hkd K.loc fun h2 hn2 hs2 => ?_
  have hP2 := hP1.but hs2.extBut hS1L
  have hk2 : Kp h₀ h2 := (hk.trans kA).st hL hs2
  have hc2 : h2.IsCell (env.locals + 1) none := (hcell.keeps kA).sameBut hs2 (Nat.succ_ne_self _)
  have hv2 : (fun y => if y = Str.ofString "script" then some (Value.ref S1) else m0 y) (Str.ofString "script") = some (.ref S1) := if_pos rfl
  dsimp only at hn2 ⊢
  generalize (fun y => if y = Str.ofString "script" then some (Value.ref S1) else m0 y) = m2 at hn2 hv2
  clear hs2 hP1 kA hn0 hsc
  -- first
  refine wpAny_execs_cons (wpAny_Assign_Name ?_ (by rfl))
  refine Subscript_ (wpAny_BinOp ?_)
  refine nm_loc hn2 hv2 ?_ hkd K.loc
  refine wpAny_List (sp1 (wpAny_Constant_int ⟨by rw [sizeLine_eq]; show (1 : Nat) ≤ _; omega, ?_⟩))
  dsimp only
  have kB : Kp h2 (h2.push ⟨.type "list", none, .seq #[.int 0 (s.toks + 1 + 1)] 0, #[]⟩) := (Kp.refl _).push _
  refine add_wp (hP2.kept kB).isList (ws := [.int 0 (s.toks + 1 + 1)]) (PL.new _ _).isList (by simp; omega) ?_
  dsimp only
  refine wpAny_Constant_int ?_
  have kC : Kp h2 ((h2.push ⟨.type "list", none, .seq #[.int 0 (s.toks + 1 + 1)] 0, #[]⟩).push ⟨.type "list", none, .seq (vs ++ [Value.int 0 (s.toks + 1 + 1)]).toArray 0, #[]⟩) := kB.push _
  refine item_list_intsR (PL.new _ _).isList (hi.append (.cons 0 _ .nil)) (by decide) (by simp) (by decide) fun t3 => ?_
  dsimp only
  show wpAny _ _ (storeName env (Str.ofString "first") (.int (firstOf xs) t3)) _ _ _
  refine st_loc (hn2.keeps kC) hkd K.loc fun h3 hn3 hs3 => ?_
  have hP3 := (hP2.kept kC).but hs3.extBut hS1L
  have hk3 : Kp h₀ h3 := (hk2.trans kC).st hL hs3
  have hc3 : h3.IsCell (env.locals + 1) none := (hc2.keeps kC).sameBut hs3 (Nat.succ_ne_self _)
  have hv3 : (fun y => if y = Str.ofString "first" then some (Value.int (firstOf xs) t3) else m2 y) (Str.ofString "script") = some (.ref S1) := (if_neg (by decide +kernel)).trans hv2
  have hf3 : (fun y => if y = Str.ofString "first" then some (Value.int (firstOf xs) t3) else m2 y) (Str.ofString "first") = some (.int (firstOf xs) t3) := if_pos rfl
  dsimp only at hn3 ⊢
  generalize (fun y => if y = Str.ofString "first" then some (Value.int (firstOf xs) t3) else m2 y) = m3 at hn3 hv3 hf3
  clear hs3 kC kB hn2 hv2 hc2 hk2 hP2
  -- name
  generalize hx : firstOf xs = x at *
  have r0 := Int.fmod_nonneg_of_pos x (show (0 : Int) < 3 by decide)
  have r1 := Int.fmod_lt_of_pos x (show (0 : Int) < 3 by decide)
  refine wpAny_execs_cons (wpAny_Assign_Name ?_ (by rfl))
  refine Subscript_ (wpAny_List (sp3 ?_))
  refine wpAny_Constant_str (wpAny_Constant_str (wpAny_Constant_str ⟨by rw [sizeLine_eq]; show (3 : Nat) ≤ _; omega, ?_⟩))
  dsimp only
  have kD : ∀ q, Kp h3 (h3.push ⟨.type "list", none, .seq q 0, #[]⟩) := fun q => (Kp.refl _).push _
  refine wpAny_BinOp ?_
  refine nm_loc (hn3.keeps (kD _)) hf3 ?_ hkd K.loc
  refine wpAny_Constant_int ?_
  refine mod_int (by decide) ?_
  have hix : ∃ t, [Value.str (Str.ofString "utf-8") (s.toks + 1 + 1 + 1 + 1 + 1), Value.str (Str.ofString "iso-8859-1") (s.toks + 1 + 1 + 1 + 1 + 1 + 1), Value.str (Str.ofString "x") (s.toks + 1 + 1 + 1 + 1 + 1 + 1 + 1)].toArray[(x.fmod 3).toNat]? = some (.str (nameOf x) t) := by
    have : (x.fmod 3).toNat = 0 ∨ (x.fmod 3).toNat = 1 ∨ (x.fmod 3).toNat = 2 := by omega
    unfold nameOf
    rcases this with e | e | e <;> rw [e]
    · exact ⟨_, rfl⟩
    · exact ⟨_, rfl⟩
    · exact ⟨_, rfl⟩
  obtain ⟨tn, hix⟩ := hix
  refine item_listR (PL.new _ _).isList r0 (by omega) hix ?_
  dsimp only
  generalize [Value.str (Str.ofString "utf-8") (s.toks + 1 + 1 + 1 + 1 + 1), Value.str (Str.ofString "iso-8859-1") (s.toks + 1 + 1 + 1 + 1 + 1 + 1), Value.str (Str.ofString "x") (s.toks + 1 + 1 + 1 + 1 + 1 + 1 + 1)].toArray = q at hix ⊢
  have hcq := hc3.keeps (kD q)
  have hnq := hn3.keeps (kD q)
  have hPq := hP3.kept (kD q)
  have hkq := hk3.trans (kD q)
  generalize h3.push ⟨.type "list", none, .seq q 0, #[]⟩ = h4 at hcq hnq hPq hkq ⊢
  refine wpAny_storeName_cell hkd K.cell K.nm hcq fun h5 hc5 hs5 => ?_
  have hS1c : S1 ≠ env.locals + 1 := by intro e; have : @Eq Nat S1 (env.locals + 1) := e; omega
  have hP5 := hPq.but hs5.extBut hS1c
  have hk5 : Kp h₀ h5 := hkq.st (Nat.le_succ_of_le hL) hs5
  have hn5 := hnq.sameBut hs5 (Nat.ne_of_lt (Nat.lt_succ_self _))
  dsimp only
  clear hs5 hcq hnq hPq hkq hix kD hn3 hP3 hc3 hk3
  have G5 := G0.keeps hk5
  -- limit
  refine wpAny_execs_cons (wpAny_Assign_Name ?_ (by rfl))
  refine wpAny_BinOp (wpAny_BinOp ?_)
  refine Call_Name1 (nm_blt (K.g ▸ G5.g) G5.n_len (K.b ▸ G5.b) G5.b_len ?_ hkd K.glob)
  refine callWith_builtin1 (nm_cell K hc5 ?_)
  have hnl := nameOf_len x
  refine P.len_str (by omega) ?_
  refine wpAny_Constant_int ?_
  refine add_int ?_
  refine wpAny_BinOp (wpAny_BinOp ?_)
  refine nm_loc hn5 hf3 ?_ hkd K.loc
  refine wpAny_Constant_int ?_
  refine floordiv_int (by decide) ?_ (.inl (PyProof.noPylong_small (by decide)))
  refine wpAny_Constant_int ?_
  refine mod_int (by decide) ?_
  refine add_int ?_
  have r2 := Int.fmod_nonneg_of_pos (x.fdiv 3) (show (0 : Int) < 7 by decide)
  have elim : ((nameOf x).length : Int) + 10 + (x.fdiv 3).fmod 7 = ((capOf x + (nameOf x).length + 7 : Nat) : Int) := by
    unfold capOf
    generalize (x.fdiv 3).fmod 7 = y at r2
    omega
  refine st_loc hn5 hkd K.loc fun h6 hn6 hs6 => ?_
  have hP6 := hP5.but hs6.extBut hS1L
  have hk6 : Kp h₀ h6 := hk5.st hL hs6
  have hc6 := hc5.sameBut hs6 (Nat.succ_ne_self _)
  have hlim6 : ∃ t, (fun y => if y = Str.ofString "limit" then some (Value.int (((nameOf x).length : Int) + 10 + (x.fdiv 3).fmod 7) t) else m3 y) (Str.ofString "limit") = some (.int (capOf x + (nameOf x).length + 7 : Nat) t) := ⟨0, by rw [← elim]; exact if_pos rfl⟩
  have hl6 : ∃ m6, h6.Ns env.locals m6 ∧ m6 (Str.ofString "script") = some (.ref S1) ∧ ∃ t, m6 (Str.ofString "limit") = some (.int (capOf x + (nameOf x).length + 7 : Nat) t) :=
    ⟨_, hn6, (if_neg (by decide +kernel)).trans hv3, _, by rw [← elim]; exact if_pos rfl⟩
  obtain ⟨m6, hn6', hv6, tl, hl6⟩ := hl6
  clear hn6 hs6 hP5 hn5 hc5 hk5 hlim6
  have G6 := G0.keeps hk6
  dsimp only
  refine wpAny_execs_cons (comp_assign (F := fun v y => ∃ (x : Int) (t t' : Tok), v = .int x t ∧ y = .int (octet x : Nat) t') (m := m6) (cl := []) R.hh (sw_true hkd K.loc (by decide +kernel)) (by rfl) (by decide +kernel) (by rfl) (by decide +kernel) (by decide +kernel) K.loc (by rw [hkd]; rfl) ?_)
  refine nm_loc hn6' hv6 ?_ hkd K.loc
  refine ⟨S1, vs.toArray, rfl, hP6.isList, by rw [List.size_toArray]; omega, hn6', fun C v s₃ m₃ E' hC hv hns hm hkp => ?_, fun D h7 tk7 ys hD hPD hF hn7 hk7 => ?_⟩
  · obtain ⟨y, t, rfl⟩ := hi.all v (by simpa using hv)
    have G3 := G6.keeps hkp
    refine Call_Name1 (nm_glob (K.g ▸ G3.g) G3.v_octet ?_ (by rfl) (by rfl))
    refine callWith_fn1 G3.f_octet (nm_loc hns hm ⟨Kp.refl _, ?_⟩ (by rfl) (by rfl))
    refine octet_spec G3 (R.less (by omega)) fun h' tk' t' hk' => ?_
    exact ⟨⟨y, t, t', rfl, rfl⟩, h', tk', rfl, hk'⟩
  · have hDL : D ≠ env.locals := by
      rintro rfl
      obtain ⟨_, _, _, e, _⟩ := hn6'
      rw [hD] at e; cases e
    have hki : IntsAre ys.toList (asInts (xs.map octet)) := by
      have key : ∀ {l : List Value} {ns : List Int} {zs : List Value}, IntsAre l ns → Paired (fun v y => ∃ (x : Int) (t t' : Tok), v = .int x t ∧ y = .int (octet x : Nat) t') l zs → IntsAre zs (asInts (ns.map octet)) := by
        intro l ns zs hl hp
        induction hl generalizing zs with
        | nil => cases hp; exact .nil
        | cons n t _ ih =>
          cases hp with
          | cons h1 h2 =>
            obtain ⟨y, t1, t2, e1, rfl⟩ := h1
            cases e1
            exact .cons _ _ (ih h2)
      exact key hi (by simpa using hF)
    have kp7 : Kp h₀ h7 := fun b o e => hk7 b o (Nat.ne_of_lt (Nat.lt_of_lt_of_le (Heap.lt_size e) hL)) (hk6 b o e)
    obtain ⟨oc, hoc, hocd⟩ := hc6
    have hc7 : h7.IsCell (env.locals + 1) (some (.str (nameOf x) tn)) := ⟨oc, hk7 _ _ (Nat.succ_ne_self _) hoc, hocd⟩
    have hPD' : PL h7 D ys.toList.toArray := by rw [Array.toArray_toList]; exact hPD
    have hr7 : (fun z => if z = Str.ofString "row" then some (Value.ref D) else m6 z) (Str.ofString "row") = some (.ref D) := if_pos rfl
    have hl7 : (fun z => if z = Str.ofString "row" then some (Value.ref D) else m6 z) (Str.ofString "limit") = some (.int (capOf x + (nameOf x).length + 7 : Nat) tl) := (if_neg (by decide +kernel)).trans hl6
    have H7 : LawIn h₀ h7 env.locals (nameOf x) (capOf x + (nameOf x).length + 7 : Nat) D (xs.map octet) _ := { ns := hn7, kp := kp7, cell := ⟨_, hc7⟩, limit := ⟨_, hl7⟩, rowN := hr7, rowv := ⟨_, hPD', hki⟩ }
    generalize (fun z => if z = Str.ofString "row" then some (Value.ref D) else m6 z) = m7 at H7
    clear hn7 hr7 hl7 hc7 hk7
    have hDs := hPD'.lt
    have hls7 : @LT.lt Nat instLTNat (env.locals + 1) h7.objs.size := let ⟨_, c⟩ := H7.cell; let ⟨_, e, _⟩ := c; Heap.lt_size e
    -- words
    refine wpAny_execs_cons (wpAny_Assign_Name (wpAny_List (sp0 ⟨Nat.zero_le _, ?_⟩)) (by rfl))
    dsimp only
    have H8 := H7.kept ((Kp.refl _).push ⟨.type "list", none, .seq #[] 0, #[]⟩)
    refine st_loc H8.ns hkd K.loc fun h9 hn9 hs9 => ?_
    have H9 := H8.store hL hDL hn9 hs9 (by decide +kernel) (by decide +kernel)
    obtain ⟨Wd, hWd⟩ : ∃ Wd : Nat, Wd = h7.objs.size := ⟨_, rfl⟩
    have hWL : Wd ≠ env.locals := by intro e; have : @Eq Nat Wd env.locals := e; omega
    have hWc : Wd ≠ env.locals + 1 := by intro e; have : @Eq Nat Wd (env.locals + 1) := e; omega
    have hWD : Wd ≠ D := by intro e; have : @Eq Nat Wd D := e; omega
    have hPW : PL h9 Wd #[] := (hWd ▸ PL.new h7 #[] : PL (h7.push _) Wd #[]).but hs9.extBut hWL
    have hw9 : (fun y => if y = Str.ofString "words" then some (Value.ref h7.objs.size) else m7 y) (Str.ofString "words") = some (.ref Wd) := by rw [hWd]; exact if_pos rfl
    dsimp only at H9 ⊢
    generalize (fun y => if y = Str.ofString "words" then some (Value.ref h7.objs.size) else m7 y) = m9 at H9 hw9
    have hls9 : @LT.lt Nat instLTNat (env.locals + 1) h9.objs.size := let ⟨_, c⟩ := H9.cell; let ⟨_, e, _⟩ := c; Heap.lt_size e
    have hWs := hPW.lt
    have hDs9 : @LT.lt Nat instLTNat D h9.objs.size := let ⟨_, a, _⟩ := H9.rowv; a.lt
    have hL' : @LE.le Nat instLENat h₀.objs.size env.locals := hL
    -- sizes
    refine wpAny_execs_cons (wpAny_Assign_Name (wpAny_List (sp0 ⟨Nat.zero_le _, ?_⟩)) (by rfl))
    dsimp only
    have H10 := H9.kept ((Kp.refl _).push ⟨.type "list", none, .seq #[] 0, #[]⟩)
    refine st_loc H10.ns hkd K.loc fun h11 hn11 hs11 => ?_
    have H11 := H10.store hL hDL hn11 hs11 (by decide +kernel) (by decide +kernel)
    obtain ⟨Sz, hSz⟩ : ∃ Sz : Nat, Sz = h9.objs.size := ⟨_, rfl⟩
    have hSL : Sz ≠ env.locals := by intro e; have : @Eq Nat Sz env.locals := e; omega
    have hSc : Sz ≠ env.locals + 1 := by intro e; have : @Eq Nat Sz (env.locals + 1) := e; omega
    have hSD : Sz ≠ D := by intro e; have : @Eq Nat Sz D := e; omega
    have hWS : Wd ≠ Sz := by intro e; have : @Eq Nat Wd Sz := e; omega
    have hPS : PL h11 Sz #[] := (hSz ▸ PL.new h9 #[] : PL (h9.push _) Sz #[]).but hs11.extBut hSL
    have hPW11 : PL h11 Wd #[] := (hPW.kept ((Kp.refl _).push _)).but hs11.extBut hWL
    have hs11' : (fun y => if y = Str.ofString "sizes" then some (Value.ref h9.objs.size) else m9 y) (Str.ofString "sizes") = some (.ref Sz) := by rw [hSz]; exact if_pos rfl
    have hw11 : (fun y => if y = Str.ofString "sizes" then some (Value.ref h9.objs.size) else m9 y) (Str.ofString "words") = some (.ref Wd) := (if_neg (by decide +kernel)).trans hw9
    have hW0 : h₀.objs.size ≤ Wd := by show @LE.le Nat instLENat _ _; omega
    have hS0 : h₀.objs.size ≤ Sz := by show @LE.le Nat instLENat _ _; omega
    exact h h11 _ D Wd Sz _ H11 hw11 hs11' hPW11 hPS ⟨hW0, hWL, hWc⟩ ⟨hS0, hSL, hSc⟩ hDL hWD hSD hWS

end
end Mine
end

section
open PySem PySem.W PyProof.Rows PySem.Calls
set_option Elab.async false
set_option maxRecDepth 100000
set_option maxHeartbeats 1000000
namespace Mine
def cutStep (cap : Nat) (ws : List (List Nat)) (c : Nat) : List (List Nat) := match ws.getLast? with
  | none => [[c]]
  | some l => if cap < cost l + (piece c).length then ws ++ [[c]] else ws.dropLast ++ [l ++ [c]]
def cut (cap : Nat) (row : List Nat) : List (List Nat) := row.foldl (cutStep cap) []

def loopBody : List Stmt := match (bodyAt 24).getD 7 (.Pass ⟨0, 0, 0, 0⟩) with | .For _ _ b _ _ => b | _ => []

/-- the text that the law compares with -/
def plainName (n : Str) (c : Nat) : Str := Str.ofString "=?" ++ n ++ Str.ofString "?q?" ++ txt [c] ++ Str.ofString "?="
theorem app_list' (a b : Str) : (a ++ b).cps.toList = a.cps.toList ++ b.cps.toList := by rw [Str.cps_append, Array.toList_append]
theorem alone_ne (n : Str) (c : Nat) : (encName n [c] != plainName n c) = (txt [c] != txt (piece c)) := by
  have h1 : (encName n [c]).cps.toList = ((Str.ofString "=?" ++ n ++ Str.ofString "?q?").cps.toList ++ piece c) ++ (Str.ofString "?=").cps.toList := by
    unfold encName wrap
    rw [app_list', app_list']
    congr 2
    show (([c].flatMap piece).toArray).toList = _
    simp
  have h2 : (plainName n c).cps.toList = ((Str.ofString "=?" ++ n ++ Str.ofString "?q?").cps.toList ++ [c]) ++ (Str.ofString "?=").cps.toList := by
    unfold plainName
    rw [app_list', app_list']
    rfl
  rw [Bool.eq_iff_iff]
  simp only [bne_iff_ne, ne_eq]
  constructor
  · intro h e
    apply h
    have : [c] = piece c := by
      have := congrArg (fun x => x.cps.toList) e
      simpa [txt] using this
    have e3 : (encName n [c]).cps.toList = (plainName n c).cps.toList := by rw [h1, h2, ← this]
    generalize encName n [c] = a at e3
    generalize plainName n c = b at e3
    obtain ⟨⟨a⟩⟩ := a
    obtain ⟨⟨b⟩⟩ := b
    have : a = b := e3
    rw [this]
  · intro h e
    apply h
    have e := congrArg (fun x => x.cps.toList) e
    simp only [h1, h2] at e
    have e1 := List.append_cancel_right e
    have e2 := List.append_cancel_left e1
    rw [e2]
theorem told_size (c : Nat) : ((txt [c] != txt (piece c)) && decide ((c : Int) ≠ 32)) = decide ((piece c).length = 3) := by
  unfold piece
  split
  · simp
  · split
    · rename_i h; simp at h; subst h; decide
    · rename_i h1 h2
      have : (txt [c] != txt [61, hexd (c / 16), hexd (c % 16)]) = true := by
        simp only [bne_iff_ne, ne_eq]
        intro e
        have := congrArg (fun x => x.cps.toList.length) e
        simp [txt] at this
      rw [this]
      simp at h2 ⊢
      omega
theorem piece_13 (c : Nat) : (piece c).length = if (piece c).length = 3 then 3 else 1 := by
  unfold piece
  split
  · rfl
  · split <;> rfl

section
variable {prog : Program} {w : World} {A : Around} {E : Value → Shared → Prop} {s : Shared} {mg mb : Str → Option Value}
theorem turn_head {env : Env} {h₀ : Heap} {n : Str} {lim : Int} {r Wd Sz : Addr} {row : List Nat} {m : Str → Option Value} {c : Nat} {Q : Flow → Shared → Prop} (G0 : Gl mg mb h₀) (R : Rm A 19) (K : Ks env) (hL : h₀.objs.size ≤ env.locals) (hr : r ≠ env.locals)
    (H : LawIn h₀ s.heap env.locals n lim r row m) (hn : n.length ≤ 10) (hc : c < 256) (hoct : ∃ t, m (Str.ofString "octet") = some (.int (c : Nat) t)) (hw : m (Str.ofString "words") = some (.ref Wd)) (hs : m (Str.ofString "sizes") = some (.ref Sz))
    (h : ∀ h' tk m', LawIn h₀ h' env.locals n lim r row m' → (∃ t, m' (Str.ofString "octet") = some (.int (c : Nat) t)) → (∃ t, m' (Str.ofString "size") = some (.int ((piece c).length : Nat) t)) → m' (Str.ofString "words") = some (.ref Wd) → m' (Str.ofString "sizes") = some (.ref Sz) →
      Heap.ExtBut env.locals s.heap h' → wpAny (model prog w) A (execs (loopBody.drop 4) env) Q E { s with heap := h', toks := tk }) :
    wpAny (model prog w) A (execs loopBody env) Q E s := by
  have hkd := K.kind
  obtain ⟨to, hoct⟩ := hoct
  have G1 := G0.keeps H.kp
  refine wpAny_execs_cons (wpAny_Assign_Name ?_ (by rfl))
  refine Call_Name1 (nm_glob (K.g ▸ G1.g) G1.v_check ?_ hkd K.glob)
  refine callWith_fn1 G1.f_check (nm_loc H.ns hoct ⟨Kp.refl _, ?_⟩ hkd K.loc)
  refine check_spec G1 (R.less (by omega)) hc fun h1 tk1 hk1 => ?_
  have H1 := H.kept hk1
  refine st_loc H1.ns hkd K.loc fun h2 hn2 hs2 => ?_
  have H2 := H1.store hL hr hn2 hs2 (by decide +kernel) (by decide +kernel)
  have x2 : Heap.ExtBut env.locals s.heap h2 := Heap.ExtBut.trans (fun b o _ e => hk1 b o e) hs2.extBut
  obtain ⟨m2, H2, ho2, ht2, hw2, hsz2⟩ : ∃ m2, LawIn h₀ h2 env.locals n lim r row m2 ∧ m2 (Str.ofString "octet") = some (.int (c : Nat) to) ∧ m2 (Str.ofString "told") = some (.bool (txt [c] != txt (piece c))) ∧ m2 (Str.ofString "words") = some (.ref Wd) ∧ m2 (Str.ofString "sizes") = some (.ref Sz) :=
    ⟨_, H2, (if_neg (by decide +kernel)).trans hoct, if_pos rfl, (if_neg (by decide +kernel)).trans hw, (if_neg (by decide +kernel)).trans hs⟩
  clear hn2 hs2 H1 hk1
  dsimp only
  have G2 := G0.keeps H2.kp
  -- alone
  refine wpAny_execs_cons (wpAny_Assign_Name ?_ (by rfl))
  refine Call_Name2 (nm_glob (K.g ▸ G2.g) G2.v_encode ?_ hkd K.glob)
  refine callWith_fn2 G2.f_encode ?_
  refine Call_Name1 (nm_blt (K.g ▸ G2.g) G2.n_bytes (K.b ▸ G2.b) G2.b_bytes ?_ hkd K.glob)
  refine callWith_type1 ?_
  refine wpAny_List (sp1 (nm_loc H2.ns ho2 ⟨by rw [sizeLine_eq]; show (1 : Nat) ≤ _; omega, ?_⟩ hkd K.loc))
  dsimp only
  refine call_bytes_ints (PL.new _ _).isList (vs := [.int (c : Nat) to]) (ns := asInts [c]) (.cons _ _ .nil) (asInts_byte (fun x hx => by rw [List.mem_singleton.mp hx]; exact hc)) (by rw [sizeLine_eq]; show (1 : Nat) ≤ _; omega) R.hh fun h3 t3 tk3 hk3 => ?_
  have k3 : Kp h2 h3 := ((Kp.refl h2).push _).trans hk3
  have H3 := H2.kept k3
  obtain ⟨tn, hcell⟩ := H3.cell
  refine nm_cell K hcell ⟨k3, ?_⟩
  rw [byteArr_asInts]
  refine encode_spec (G0.keeps H3.kp) (R.less (by omega)) (fun x hx => by rw [List.mem_singleton.mp hx]; exact hc) (by simp) (by simp) (by omega) fun h4 tk4 t4 hk4 => ?_
  have H4 := H3.kept hk4
  refine st_loc H4.ns hkd K.loc fun h5 hn5 hs5 => ?_
  have H5 := H4.store hL hr hn5 hs5 (by decide +kernel) (by decide +kernel)
  have x5 : Heap.ExtBut env.locals s.heap h5 := x2.trans (Heap.ExtBut.trans (fun b o _ e => hk4 b o (k3 b o e)) hs5.extBut)
  obtain ⟨m5, H5, ho5, ht5, ha5, hw5, hsz5⟩ : ∃ m5, LawIn h₀ h5 env.locals n lim r row m5 ∧ m5 (Str.ofString "octet") = some (.int (c : Nat) to) ∧ m5 (Str.ofString "told") = some (.bool (txt [c] != txt (piece c))) ∧ m5 (Str.ofString "alone") = some (.str (encName n [c]) t4) ∧ m5 (Str.ofString "words") = some (.ref Wd) ∧ m5 (Str.ofString "sizes") = some (.ref Sz) :=
    ⟨_, H5, (if_neg (by decide +kernel)).trans ho2, (if_neg (by decide +kernel)).trans ht2, if_pos rfl, (if_neg (by decide +kernel)).trans hw2, (if_neg (by decide +kernel)).trans hsz2⟩
  clear hn5 hs5 H4 H3 hk4 hk3 x2 hcell k3
  dsimp only
  have G5 := G0.keeps H5.kp
  obtain ⟨tc, hcell⟩ := H5.cell
  -- told is not ...
  refine wpAny_execs_cons (wpAny_If (wpAny_isTrue_Compare1 ?_))
  refine nm_loc H5.ns ht5 ?_ hkd K.loc
  refine wpAny_Compare1 ?_
  refine nm_loc H5.ns ha5 ?_ hkd K.loc
  refine wpAny_BinOp (wpAny_BinOp (wpAny_BinOp (wpAny_BinOp (wpAny_Constant_str ?_))))
  refine nm_cell K hcell ?_
  refine SBL.add (fun t6 k6 _ => ?_) (by rw [sizeLine_eq, show (Str.ofString "=?").length = 2 by decide +kernel]; omega)
  refine wpAny_Constant_str ?_
  refine SBL.add (fun t7 k7 _ => ?_) (by rw [sizeLine_eq, Str.length_append, show (Str.ofString "=?").length = 2 by decide +kernel, show (Str.ofString "?q?").length = 3 by decide +kernel]; omega)
  refine Call_Name1 (nm_blt (K.g ▸ G5.g) G5.n_chr (K.b ▸ G5.b) G5.b_chr ?_ hkd K.glob)
  refine callWith_builtin1 (nm_loc H5.ns ho5 ?_ hkd K.loc)
  refine chr_of_range (by omega) (by omega) ?_
  refine SBL.add (fun t8 k8 _ => ?_) (by rw [sizeLine_eq, Str.length_append, Str.length_append, show (Str.ofString "=?").length = 2 by decide +kernel, show (Str.ofString "?q?").length = 3 by decide +kernel]; show _ + 1 ≤ _; omega)
  refine wpAny_Constant_str ?_
  refine SBL.add (fun t9 k9 _ => ?_) (by rw [sizeLine_eq, Str.length_append, Str.length_append, Str.length_append, show (Str.ofString "=?").length = 2 by decide +kernel, show (Str.ofString "?q?").length = 3 by decide +kernel, show (Str.ofString "?=").length = 2 by decide +kernel]; show _ + 1 + _ ≤ _; omega)
  refine PyProof.Rows.ne_str ?_
  show wpAny (model prog w) A (compareOp .IsNot (.bool (txt [c] != txt (piece c))) (.bool (encName n [c] != plainName n c))) _ _ _
  rw [alone_ne]
  refine wpAny_isNot_self (by rfl) ?_
  refine wpAny_truthy_bool ?_
  rw [if_neg (by simp)]
  refine wpAny_execs_nil ?_
  dsimp only
  -- size
  refine wpAny_execs_cons (wpAny_Assign_Name (wpAny_IfExp (isTrue_and (wpAny_isTrue_value ?_))) (by rfl))
  refine nm_loc H5.ns ht5 ?_ hkd K.loc
  refine wpAny_truthy_bool ?_
  have hfin : ∀ (tk6 : Nat) (t6 : Tok), wpAny (model prog w) A (storeName env (Str.ofString "size") (.int ((piece c).length : Nat) t6)) (fun _ s' => wpAny (model prog w) A (execs (loopBody.drop 4) env) Q E s') E { s with heap := h5, toks := tk6 } := fun tk6 t6 => by
    refine st_loc H5.ns hkd K.loc fun h6 hn6 hs6 => ?_
    have H6 := H5.store hL hr hn6 hs6 (by decide +kernel) (by decide +kernel)
    exact h h6 _ _ H6 ⟨_, (if_neg (by decide +kernel)).trans ho5⟩ ⟨_, if_pos rfl⟩ ((if_neg (by decide +kernel)).trans hw5) ((if_neg (by decide +kernel)).trans hsz5) (x5.trans hs6.extBut)
  have hts := told_size c
  have hp := piece_13 c
  cases hb : (txt [c] != txt (piece c)) with
  | false =>
    rw [hb] at hts
    rw [if_neg (by simp), if_neg (by simp)]
    refine wpAny_Constant_int ?_
    have e : (1 : Int) = ((piece c).length : Nat) := by
      rw [hp, if_neg (by intro e; rw [e] at hts; simp at hts)]; rfl
    rw [← e] at hfin
    exact hfin _ _
  | true =>
    rw [if_pos rfl]
    refine isTrue_and (wpAny_isTrue_Compare1 ?_)
    refine nm_loc H5.ns ho5 ?_ hkd K.loc
    refine wpAny_Constant_int ?_
    refine ne_int ?_
    refine wpAny_truthy_bool ?_
    rw [hb] at hts
    by_cases h32 : (c : Int) = 32
    · rw [if_neg (by simp [h32]), if_neg (by simp)]
      refine wpAny_Constant_int ?_
      have e : (1 : Int) = ((piece c).length : Nat) := by
        rw [hp, if_neg (by intro e; rw [e] at hts; simp [h32] at hts)]; rfl
      rw [← e] at hfin
      exact hfin _ _
    · rw [if_pos (by simpa using h32)]
      refine isTrue_and_nil ?_
      rw [if_pos rfl]
      refine wpAny_Constant_int ?_
      have e : (3 : Int) = ((piece c).length : Nat) := by
        rw [hp, if_pos (by simpa [h32] using hts)]; rfl
      rw [← e] at hfin
      exact hfin _ _
end
end Mine
end

section
open PySem PySem.W PyProof.Rows PySem.Calls
set_option Elab.async false
set_option maxRecDepth 100000
set_option maxHeartbeats 1000000
namespace Mine
structure CutAt (h₀ h : Heap) (L r Wd Sz I : Addr) (as : List Addr) (ws : List (List Nat)) (base : Nat) : Prop where
  words : PL h Wd (as.map Value.ref).toArray
  sizes : ∃ sv, PL h Sz sv.toArray ∧ IntsAre sv (asInts (ws.map fun l => base + cost l))
  len : as.length = ws.length
  each : ∀ (i : Nat) (a : Addr) (l : List Nat), as[i]? = some a → ws[i]? = some l → ∃ vs, PL h a vs.toArray ∧ IntsAre vs (asInts l)
  nodup : as.Nodup
  fresh : ∀ a ∈ as, h₀.objs.size ≤ a ∧ a ≠ L ∧ a ≠ L + 1 ∧ a ≠ r ∧ a ≠ Wd ∧ a ≠ Sz ∧ a ≠ I
theorem CutAt.kept {h₀ h h' : Heap} {L r Wd Sz I : Addr} {as : List Addr} {ws : List (List Nat)} {b : Nat} (x : CutAt h₀ h L r Wd Sz I as ws b) (k : Kp h h') : CutAt h₀ h' L r Wd Sz I as ws b :=
  { x with words := x.words.kept k, sizes := let ⟨s, a, b⟩ := x.sizes; ⟨s, a.kept k, b⟩, each := fun i a l h1 h2 => let ⟨v, p, q⟩ := x.each i a l h1 h2; ⟨v, p.kept k, q⟩ }
theorem CutAt.but {h₀ h h' : Heap} {L r Wd Sz I l : Addr} {as : List Addr} {ws : List (List Nat)} {b : Nat} (x : CutAt h₀ h L r Wd Sz I as ws b) (hs : Heap.ExtBut l h h') (hW : Wd ≠ l) (hS : Sz ≠ l) (ha : ∀ a ∈ as, a ≠ l) : CutAt h₀ h' L r Wd Sz I as ws b :=
  { x with words := x.words.but hs hW, sizes := let ⟨s, a, b⟩ := x.sizes; ⟨s, a.but hs hS, b⟩, each := fun i a l h1 h2 => let ⟨v, p, q⟩ := x.each i a l h1 h2; ⟨v, p.but hs (ha a (List.mem_of_getElem? h1)), q⟩ }
theorem CutAt.nil {h₀ h : Heap} {L r Wd Sz I : Addr} {b : Nat} (hw : PL h Wd #[]) (hs : PL h Sz #[]) : CutAt h₀ h L r Wd Sz I [] [] b :=
  { words := hw, sizes := ⟨[], hs, .nil⟩, len := rfl, each := fun i a l h1 => by simp at h1, nodup := .nil, fresh := fun a h => nomatch h }

/-- what a turn has at hand -/
structure Turn (h₀ h : Heap) (L r Wd Sz I : Addr) (n : Str) (cap : Nat) (row : List Nat) (i : Nat) (as : List Addr) (ws : List (List Nat)) (m : Str → Option Value) : Prop where
  law : LawIn h₀ h L n (cap + n.length + 7 : Nat) r row m
  w : m (Str.ofString "words") = some (.ref Wd)
  s : m (Str.ofString "sizes") = some (.ref Sz)
  it : h.IsListIter I r i
  cut : CutAt h₀ h L r Wd Sz I as ws (n.length + 7)
/-- the addresses apart -/
structure Apart (h₀ : Heap) (L r Wd Sz I : Addr) : Prop where
  hL : h₀.objs.size ≤ L
  rL : r ≠ L
  W0 : h₀.objs.size ≤ Wd
  WL : Wd ≠ L
  Wc : Wd ≠ L + 1
  Wr : Wd ≠ r
  WI : Wd ≠ I
  S0 : h₀.objs.size ≤ Sz
  SL : Sz ≠ L
  Sc : Sz ≠ L + 1
  Sr : Sz ≠ r
  SI : Sz ≠ I
  WS : Wd ≠ Sz
  I0 : h₀.objs.size ≤ I
  IL : I ≠ L
  Ic : I ≠ L + 1
  Ir : I ≠ r
theorem Turn.kept {h₀ h h' : Heap} {L r Wd Sz I : Addr} {n : Str} {cap : Nat} {row : List Nat} {i : Nat} {as : List Addr} {ws : List (List Nat)} {m : Str → Option Value} (x : Turn h₀ h L r Wd Sz I n cap row i as ws m) (k : Kp h h') : Turn h₀ h' L r Wd Sz I n cap row i as ws m :=
  { x with law := x.law.kept k, it := x.it.at fun o e => k _ _ e, cut := x.cut.kept k }
theorem Turn.store {h₀ h h' : Heap} {L r Wd Sz I : Addr} {n : Str} {cap : Nat} {row : List Nat} {i : Nat} {as : List Addr} {ws : List (List Nat)} {m : Str → Option Value} {y : Str} {v : Value} (p : Apart h₀ L r Wd Sz I) (x : Turn h₀ h L r Wd Sz I n cap row i as ws m)
    (hn : h'.Ns L fun z => if z = y then some v else m z) (hs : Heap.SameBut L h h') (h1 : Str.ofString "limit" ≠ y) (h2 : Str.ofString "row" ≠ y) (h3 : Str.ofString "words" ≠ y) (h4 : Str.ofString "sizes" ≠ y) :
    Turn h₀ h' L r Wd Sz I n cap row i as ws fun z => if z = y then some v else m z :=
  { law := x.law.store p.hL p.rL hn hs h1 h2, w := (if_neg h3).trans x.w, s := (if_neg h4).trans x.s, it := x.it.extBut hs.extBut p.IL, cut := x.cut.but hs.extBut p.WL p.SL fun a ha => (x.cut.fresh a ha).2.1 }
/-- the word begun takes an octet -/
theorem CutAt.grow {h₀ h h' : Heap} {L r Wd Sz I a : Addr} {as : List Addr} {ws : List (List Nat)} {l : List Nat} {base c : Nat} {vs : List Value} {t : Tok} (x : CutAt h₀ h L r Wd Sz I (as ++ [a]) (ws ++ [l]) base) (hl : PL h a vs.toArray) (hi : IntsAre vs (asInts l))
    (hs : Heap.SameBut a h h') (hp : PL h' a (vs.toArray.push (.int (c : Nat) t))) :
    PL h' Wd ((as ++ [a]).map Value.ref).toArray ∧ (∃ sv, PL h' Sz sv.toArray ∧ IntsAre sv (asInts ((ws ++ [l]).map fun l => base + cost l))) ∧
      ∀ (i : Nat) (b : Addr) (k : List Nat), (as ++ [a])[i]? = some b → (ws ++ [l ++ [c]])[i]? = some k → ∃ vs, PL h' b vs.toArray ∧ IntsAre vs (asInts k) := by
  have fa := x.fresh a (by simp)
  refine ⟨x.words.but hs.extBut (Ne.symm fa.2.2.2.2.1), let ⟨sv, p, q⟩ := x.sizes; ⟨sv, p.but hs.extBut (Ne.symm fa.2.2.2.2.2.1), q⟩, fun i b k h1 h2 => ?_⟩
  have hlen : as.length = ws.length := by have := x.len; simpa using this
  by_cases hi' : i < as.length
  · rw [List.getElem?_append_left hi'] at h1
    rw [List.getElem?_append_left (by omega)] at h2
    obtain ⟨v, p, q⟩ := x.each i b k (by rw [List.getElem?_append_left hi']; exact h1) (by rw [List.getElem?_append_left (by omega)]; exact h2)
    have hne : b ≠ a := by
      rintro rfl
      have := x.nodup
      rw [List.nodup_append] at this
      exact this.2.2 b (List.mem_of_getElem? h1) b (by simp) rfl
    exact ⟨v, p.but hs.extBut hne, q⟩
  · have e : i = as.length := by
      have := (List.getElem?_eq_some_iff.mp h1).1
      simp at this; omega
    subst e
    rw [List.getElem?_append_right (Nat.le_refl _), Nat.sub_self] at h1
    rw [hlen, List.getElem?_append_right (Nat.le_refl _), Nat.sub_self] at h2
    cases h1; cases h2
    exact ⟨vs ++ [.int (c : Nat) t], by rw [List.push_toArray] at hp; exact hp, by rw [asInts_snoc]; exact hi.append (.cons _ _ .nil)⟩
end Mine
end

section
open PySem PySem.W PyProof.Rows PySem.Calls
set_option Elab.async false
set_option maxRecDepth 100000
set_option maxHeartbeats 2000000
namespace Mine
theorem cost_snoc (l : List Nat) (c : Nat) : cost (l ++ [c]) = cost l + (piece c).length := by simp [cost]
def beginBody : List Stmt := match loopBody.getD 4 (.Pass ⟨0, 0, 0, 0⟩) with | .If _ b _ _ => b | _ => []
section
variable {prog : Program} {w : World} {A : Around} {E : Value → Shared → Prop} {s : Shared} {mg mb : Str → Option Value}
theorem turn_begin {env : Env} {h₀ : Heap} {n : Str} {cap : Nat} {r Wd Sz I : Addr} {row : List Nat} {m : Str → Option Value} {i : Nat} {as : List Addr} {ws : List (List Nat)} {Q : Flow → Shared → Prop} (G0 : Gl mg mb h₀) (K : Ks env) (P : Apart h₀ env.locals r Wd Sz I)
    (T : Turn h₀ s.heap env.locals r Wd Sz I n cap row i as ws m) (hn : n.length ≤ 10) (hwl : ws.length ≤ 1000)
    (h : ∀ h' tk a, Turn h₀ h' env.locals r Wd Sz I n cap row i (as ++ [a]) (ws ++ [[]]) m → Q .next { s with heap := h', toks := tk }) :
    wpAny (model prog w) A (execs beginBody env) Q E s := by
  have hkd := K.kind
  have hal : as.length = ws.length := T.cut.len
  obtain ⟨a, ha⟩ : ∃ a : Nat, a = s.heap.objs.size := ⟨_, rfl⟩
  have lt_of : ∀ {b : Addr} {q : Array Value}, PL s.heap b q → b ≠ a := fun x e => by have := x.lt; have e' : @Eq Nat _ a := e; omega
  have hIa : I ≠ a := fun e => by
    obtain ⟨_, e1, _⟩ := T.it
    have := Heap.lt_size e1; have e' : @Eq Nat I a := e; have : @LT.lt Nat instLTNat I s.heap.objs.size := this; omega
  have hLa : env.locals ≠ a := fun e => by
    obtain ⟨_, _, _, e1, _⟩ := T.law.ns
    have : @LT.lt Nat instLTNat env.locals s.heap.objs.size := Heap.lt_size e1; have e' : @Eq Nat env.locals a := e; omega
  have hca : env.locals + 1 ≠ a := fun e => by
    obtain ⟨_, _, e1, _⟩ := T.law.cell
    have : @LT.lt Nat instLTNat (env.locals + 1) s.heap.objs.size := Heap.lt_size e1; have e' : @Eq Nat (env.locals + 1) a := e; omega
  have hra : r ≠ a := let ⟨_, p, _⟩ := T.law.rowv; lt_of p
  have h0a : h₀.objs.size ≤ a := by
    have h1 : @LE.le Nat instLENat h₀.objs.size env.locals := P.hL
    obtain ⟨_, _, _, e1, _⟩ := T.law.ns
    have : @LT.lt Nat instLTNat env.locals s.heap.objs.size := Heap.lt_size e1
    show @LE.le Nat instLENat _ _
    omega
  have hWa : Wd ≠ a := lt_of T.cut.words
  obtain ⟨sv, hPS, hsv⟩ := T.cut.sizes
  have hSa : Sz ≠ a := lt_of hPS
  have haa : ∀ b ∈ as, b ≠ a := fun b hb => by
    obtain ⟨j, hj, rfl⟩ := List.getElem_of_mem hb
    obtain ⟨_, p, _⟩ := T.cut.each j as[j] ws[j] (List.getElem?_eq_getElem hj) (List.getElem?_eq_getElem (by omega))
    exact lt_of p
  refine wpAny_execs_cons (app_stmt hkd K.loc T.law.ns T.w T.cut.words (by decide +kernel) ?_)
  refine wpAny_List (sp0 ⟨Nat.zero_le _, ?_⟩)
  have k1 : Kp s.heap (s.heap.push ⟨.type "list", none, .seq #[] 0, #[]⟩) := (Kp.refl _).push _
  have T1 := T.kept k1
  have hPa : PL (s.heap.push ⟨.type "list", none, .seq #[] 0, #[]⟩) a #[] := ha ▸ PL.new s.heap #[]
  refine ⟨_, T1.cut.words, by rw [List.size_toArray, List.length_map]; omega, fun h2 hW2 hs2 => ?_⟩
  have L2 := T1.law.but P.WL P.Wc P.Wr P.W0 hs2
  have I2 := T1.it.extBut hs2.extBut (Ne.symm P.WI)
  have hPa2 := hPa.but hs2.extBut (Ne.symm hWa)
  have hPS2 := (hPS.kept k1).but hs2.extBut (Ne.symm P.WS)
  have E2 : ∀ (j : Nat) (b : Addr) (l : List Nat), as[j]? = some b → ws[j]? = some l → ∃ vs, PL h2 b vs.toArray ∧ IntsAre vs (asInts l) := fun j b l h1 h3 =>
    let ⟨v, p, q⟩ := T1.cut.each j b l h1 h3; ⟨v, p.but hs2.extBut (T.cut.fresh b (List.mem_of_getElem? h1)).2.2.2.2.1, q⟩
  have G2 := G0.keeps L2.kp
  obtain ⟨tn, hcell⟩ := L2.cell
  refine wpAny_execs_cons (app_stmt hkd K.loc L2.ns T.s hPS2 (by decide +kernel) ?_)
  refine wpAny_BinOp ?_
  refine Call_Name1 (nm_blt (K.g ▸ G2.g) G2.n_len (K.b ▸ G2.b) G2.b_len ?_ hkd K.glob)
  refine callWith_builtin1 (nm_cell K hcell ?_)
  refine PySem.P.len_str (by omega) ?_
  refine wpAny_Constant_int ?_
  refine add_int ?_
  dsimp only
  have hsvl : sv.length = ws.length := by rw [hsv.length]; simp [asInts]
  refine ⟨_, hPS2, by rw [List.size_toArray]; omega, fun h3 hS3 hs3 => wpAny_execs_nil ?_⟩
  refine h h3 _ a { law := L2.but P.SL P.Sc P.Sr P.S0 hs3, w := T.w, s := T.s, it := I2.extBut hs3.extBut (Ne.symm P.SI), cut := ?_ }
  have hWeq : ((as.map Value.ref).toArray.push (.ref a)) = ((as ++ [a]).map Value.ref).toArray := by simp
  refine { words := ?_, sizes := ?_, len := by simp [hal], each := ?_, nodup := ?_, fresh := ?_ }
  · rw [← hWeq, ha]; exact hW2.but hs3.extBut P.WS
  · refine ⟨sv ++ [.int (((n.length : Nat) : Int) + 7) _], by rw [List.push_toArray] at hS3; exact hS3, ?_⟩
    rw [List.map_append, List.map_cons, List.map_nil, asInts_snoc]
    exact hsv.append (.cons _ _ .nil)
  · intro j b l h1 h4
    by_cases hj : j < as.length
    · rw [List.getElem?_append_left hj] at h1
      rw [List.getElem?_append_left (by omega)] at h4
      obtain ⟨v, p, q⟩ := E2 j b l h1 h4
      exact ⟨v, p.but hs3.extBut (T.cut.fresh b (List.mem_of_getElem? h1)).2.2.2.2.2.1, q⟩
    · have e : j = as.length := by
        have := (List.getElem?_eq_some_iff.mp h1).1
        simp at this; omega
      subst e
      rw [List.getElem?_append_right (Nat.le_refl _), Nat.sub_self] at h1
      rw [hal, List.getElem?_append_right (Nat.le_refl _), Nat.sub_self] at h4
      cases h1; cases h4
      exact ⟨[], hPa2.but hs3.extBut (Ne.symm hSa), .nil⟩
  · rw [List.nodup_append]
    exact ⟨T.cut.nodup, by simp, fun x hx y hy => by rw [List.mem_singleton.mp hy]; exact haa x hx⟩
  · intro b hb
    rcases List.mem_append.mp hb with hb | hb
    · exact T.cut.fresh b hb
    · obtain rfl := List.mem_singleton.mp hb
      exact ⟨h0a, Ne.symm hLa, Ne.symm hca, Ne.symm hra, Ne.symm hWa, Ne.symm hSa, Ne.symm hIa⟩

theorem cutStep_nil (cap c : Nat) : cutStep cap [] c = [] ++ [[] ++ [c]] := rfl
theorem cutStep_new {cap c : Nat} {ws : List (List Nat)} {l : List Nat} (h : cap < cost l + (piece c).length) : cutStep cap (ws ++ [l]) c = (ws ++ [l]) ++ [[] ++ [c]] := by
  have e : (ws ++ [l]).getLast? = some l := by simp
  unfold cutStep
  rw [e]
  simp [h]
theorem cutStep_old {cap c : Nat} {ws : List (List Nat)} {l : List Nat} (h : ¬ cap < cost l + (piece c).length) : cutStep cap (ws ++ [l]) c = ws ++ [l ++ [c]] := by
  have e : (ws ++ [l]).getLast? = some l := by simp
  unfold cutStep
  rw [e]
  simp [h]

theorem turn_if {env : Env} {h₀ : Heap} {n : Str} {cap : Nat} {r Wd Sz I : Addr} {row : List Nat} {m : Str → Option Value} {c i : Nat} {as : List Addr} {ws : List (List Nat)} {Q : Flow → Shared → Prop} (G0 : Gl mg mb h₀) (R : Rm A 19) (K : Ks env) (P : Apart h₀ env.locals r Wd Sz I)
    (T : Turn h₀ s.heap env.locals r Wd Sz I n cap row i as ws m) (hn : n.length ≤ 10) (hwl : ws.length ≤ 1000) (hsize : ∃ t, m (Str.ofString "size") = some (.int ((piece c).length : Nat) t))
    (h : ∀ h' tk as' a ws' l, Turn h₀ h' env.locals r Wd Sz I n cap row i (as' ++ [a]) (ws' ++ [l]) m → cutStep cap ws c = ws' ++ [l ++ [c]] → wpAny (model prog w) A (execs (loopBody.drop 5) env) Q E { s with heap := h', toks := tk }) :
    wpAny (model prog w) A (execs (loopBody.drop 4) env) Q E s := by
  have hkd := K.kind
  obtain ⟨ts, hsize⟩ := hsize
  obtain ⟨sv, hPS, hsv⟩ := T.cut.sizes
  refine wpAny_execs_cons (wpAny_If (isTrue_or (wpAny_isTrue_Compare1 ?_)))
  refine nm_loc T.law.ns T.s ?_ hkd K.loc
  refine wpAny_List (sp0 ⟨Nat.zero_le _, ?_⟩)
  have k1 : Kp s.heap (s.heap.push ⟨.type "list", none, .seq #[] 0, #[]⟩) := (Kp.refl _).push _
  refine eq_intsK (hPS.kept k1).isList hsv (us := []) (ms := []) (PL.new _ _).isList .nil (by have := R.un; omega) ?_
  refine wpAny_truthy_bool ?_
  have T1 := T.kept k1
  generalize s.heap.push ⟨.type "list", none, .seq #[] 0, #[]⟩ = h1 at T1 ⊢
  have begin_ : ∀ tk1, cutStep cap ws c = ws ++ [[] ++ [c]] → wpAny (model prog w) A (execs beginBody env) (fun f s' => match f with | .next => wpAny (model prog w) A (execs (loopBody.drop 5) env) Q E s' | f => Q f s') E { s with heap := h1, toks := tk1 } := fun tk1 hc =>
    turn_begin (s := { s with heap := h1, toks := tk1 }) G0 K P T1 hn hwl fun h' tk a T' => h h' tk as a ws [] T' hc
  have hcase : ws = [] ∨ ∃ ws' l, ws = ws' ++ [l] := by
    rcases List.eq_nil_or_concat ws with e | ⟨ws', l, e⟩
    · exact .inl e
    · exact .inr ⟨ws', l, by rw [e, List.concat_eq_append]⟩
  rcases hcase with rfl | ⟨ws', l, rfl⟩
  · rw [if_pos (by simp [asInts])]
    exact begin_ _ (cutStep_nil cap c)
  · rw [if_neg (by simp [asInts])]
    refine isTrue_or (wpAny_isTrue_Compare1 ?_)
    refine wpAny_BinOp ?_
    refine Subscript_ (nm_loc T1.law.ns T1.s ?_ hkd K.loc)
    refine UnaryOp_ (wpAny_Constant_int (neg_int ?_))
    obtain ⟨sv1, hPS1, hsv1⟩ := T1.cut.sizes
    refine item_list_ints_negR hPS1.isList hsv1 (by decide) (by simp [asInts]; omega) (by decide) fun tt => ?_
    have eget : (asInts (List.map (fun l => n.length + 7 + cost l) (ws' ++ [l]))).getD (-1 + ((asInts (List.map (fun l => n.length + 7 + cost l) (ws' ++ [l]))).length : Int)).toNat 0 = ((n.length + 7 + cost l : Nat) : Int) := by
      have e1 : (-1 + ((asInts (List.map (fun l => n.length + 7 + cost l) (ws' ++ [l]))).length : Int)).toNat = ws'.length := by rw [asInts_len]; simp; omega
      rw [e1, asInts_getD _ _ (by simp)]
      rw [List.getD_eq_getElem?_getD, List.map_append, List.getElem?_append_right (by simp)]
      simp
    generalize (asInts (List.map (fun l => n.length + 7 + cost l) (ws' ++ [l]))).getD (-1 + ((asInts (List.map (fun l => n.length + 7 + cost l) (ws' ++ [l]))).length : Int)).toNat 0 = gv at eget ⊢
    refine nm_loc T1.law.ns hsize ?_ hkd K.loc
    refine add_int ?_
    obtain ⟨tl, hlim⟩ := T1.law.limit
    refine nm_loc T1.law.ns hlim ?_ hkd K.loc
    refine gt_int ?_
    refine wpAny_truthy_bool ?_
    by_cases hbig : cap < cost l + (piece c).length
    · rw [if_pos (by simp only [decide_eq_true_eq]; omega)]
      rw [if_pos rfl]
      exact begin_ _ (cutStep_new hbig)
    · rw [if_neg (by simp only [decide_eq_true_eq]; omega)]
      refine isTrue_or_nil ?_
      rw [if_neg (by simp)]
      refine wpAny_execs_nil ?_
      have hne : as ≠ [] := fun e => by have := T1.cut.len; rw [e] at this; simp at this
      obtain ⟨as', a, rfl⟩ : ∃ as' a, as = as' ++ [a] := by
        rcases List.eq_nil_or_concat as with e | ⟨as', a, e⟩
        · exact absurd e hne
        · exact ⟨as', a, by rw [e, List.concat_eq_append]⟩
      exact h h1 _ as' a ws' l T1 (cutStep_old hbig)
end
end Mine
end

section
open PySem PySem.W PyProof.Rows PySem.Calls
set_option Elab.async false
set_option maxRecDepth 100000
set_option maxHeartbeats 2000000
namespace Mine
section
variable {prog : Program} {w : World} {A : Around} {E : Value → Shared → Prop} {s : Shared} {mg mb : Str → Option Value}
theorem item_last {value slice : Expr} {l : Addr} {items : Array Value} {u : Tok} {x : Value} {Q : Value → Shared → Prop} (hl : s.heap.IsList l items) (h0 : 0 < items.size) (hx : items[items.size - 1]? = some x) (h : Q x s)
    (hs : subscripted slice false (.ref l) (.int (-1) u) = operate [.ref l, .int (-1) u] (getItem (.ref l) (.int (-1) u)) := by with_unfolding_all rfl) :
    wpAny (model prog w) A (subscriptTail value slice (.ref l) (.int (-1) u)) Q E s :=
  subscriptTail_builtinR hl.typeIs slot_list_getitem.lookup (wpAny_getItem_list_neg (Q := fun r s' => r = x ∧ Q r s') hl (by decide) (by omega) (by decide) (by rw [show (-1 + (items.size : Int)).toNat = items.size - 1 by omega]; exact hx) ⟨rfl, h⟩) hs

theorem turn_tail {env : Env} {h₀ : Heap} {n : Str} {cap : Nat} {r Wd Sz I a : Addr} {row : List Nat} {m : Str → Option Value} {c i : Nat} {as : List Addr} {ws : List (List Nat)} {l : List Nat} {Q : Flow → Shared → Prop} (R : Rm A 19) (K : Ks env) (P : Apart h₀ env.locals r Wd Sz I)
    (T : Turn h₀ s.heap env.locals r Wd Sz I n cap row i (as ++ [a]) (ws ++ [l]) m) (hwl : ws.length ≤ 1000) (hll : l.length ≤ 1000) (hoct : ∃ t, m (Str.ofString "octet") = some (.int (c : Nat) t)) (hsize : ∃ t, m (Str.ofString "size") = some (.int ((piece c).length : Nat) t))
    (h : ∀ h' tk, Turn h₀ h' env.locals r Wd Sz I n cap row i (as ++ [a]) (ws ++ [l ++ [c]]) m → Q .next { s with heap := h', toks := tk }) :
    wpAny (model prog w) A (execs (loopBody.drop 5) env) Q E s := by
  have hkd := K.kind
  obtain ⟨to, hoct⟩ := hoct
  obtain ⟨ts, hsize⟩ := hsize
  have hal : as.length = ws.length := by have := T.cut.len; simpa using this
  obtain ⟨vs, hPa, hva⟩ := T.cut.each as.length a l (by simp) (by rw [hal]; simp)
  have fa := T.cut.fresh a (by simp)
  refine wpAny_execs_cons (wpAny_Expr ?_ (fn_quiet hkd) (by rfl))
  refine Call_method1 (by rfl) (by rfl) (by rfl) ?_
  refine Subscript_ (nm_loc T.law.ns T.w ?_ hkd K.loc)
  refine UnaryOp_ (wpAny_Constant_int (neg_int ?_))
  refine item_last T.cut.words.isList (by simp) (x := .ref a) (by simp) ?_
  refine meth1 F.plainAttrs_list slot_list_append type_list_append hPa.isList.typeIs (fun b e => ?_) ?_
  · cases e; obtain ⟨o, p, _, q, _⟩ := hPa; exact ⟨o, p, q⟩
  refine nm_loc T.law.ns hoct ?_ hkd K.loc
  have hvl : vs.length = l.length := by rw [hva.length, asInts_len]
  refine append_wp hPa (by rw [List.size_toArray]; omega) fun h1 hP1 hs1 => ?_
  dsimp only at hs1 ⊢
  obtain ⟨g1, g2, g3⟩ := T.cut.grow (c := c) hPa hva hs1 hP1
  have L1 := T.law.but fa.2.1 fa.2.2.1 fa.2.2.2.1 fa.1 hs1
  have I1 := T.it.extBut hs1.extBut (Ne.symm fa.2.2.2.2.2.2)
  obtain ⟨sv, hPS, hsv⟩ := g2
  have hsvl : sv.length = ws.length + 1 := by rw [hsv.length, asInts_len]; simp
  have hlast : ∃ t, sv.toArray[sv.toArray.size - 1]? = some (.int ((n.length + 7 + cost l : Nat) : Int) t) := by
    obtain ⟨t, ht⟩ := hsv.get ws.length ((n.length + 7 + cost l : Nat) : Int) (by simp [asInts])
    exact ⟨t, by rw [List.size_toArray, hsvl]; simpa using ht⟩
  obtain ⟨tl, hlast⟩ := hlast
  refine wpAny_execs_cons (wpAny_AugAssign_SubscriptAny ?_)
  refine nm_loc L1.ns T.s ?_ hkd K.loc
  refine UnaryOp_ (wpAny_Constant_int (neg_int ?_))
  refine wpAny_getItem_list_neg hPS.isList (by decide) (by rw [List.size_toArray]; omega) (by decide) (by rw [show (-1 + (sv.toArray.size : Int)).toNat = sv.toArray.size - 1 by rw [List.size_toArray]; omega]; exact hlast) ?_
  refine nm_loc L1.ns hsize ?_ hkd K.loc
  refine wpAny_iadd_int ?_
  refine setItem_last hPS (by rw [List.size_toArray]; omega) fun h2 hP2 hs2 => wpAny_execs_nil ?_
  dsimp only at hP2 hs2 ⊢
  refine h h2 _ { law := L1.but P.SL P.Sc P.Sr P.S0 hs2, w := T.w, s := T.s, it := I1.extBut hs2.extBut (Ne.symm P.SI), cut := ?_ }
  refine { words := g1.but hs2.extBut P.WS, sizes := ?_, len := by simp [hal], each := fun j b k h3 h4 => ?_, nodup := T.cut.nodup, fresh := T.cut.fresh }
  · obtain ⟨sv0, x, rfl⟩ : ∃ sv0 x, sv = sv0 ++ [x] := by
      rcases List.eq_nil_or_concat sv with e | ⟨sv0, x, e⟩
      · rw [e] at hsvl; simp at hsvl
      · exact ⟨sv0, x, by rw [e, List.concat_eq_append]⟩
    have h0l : sv0.length = ws.length := by simpa using hsvl
    have h0 : IntsAre sv0 (asInts (ws.map fun l => n.length + 7 + cost l)) := by
      have := hsv.take ws.length
      rw [List.take_append_of_le_length (by omega), ← h0l, List.take_length, List.map_append, List.map_cons, List.map_nil, asInts_snoc, List.take_append_of_le_length (by rw [asInts_len]; simp; omega), List.take_of_length_le (by rw [asInts_len]; simp; omega)] at this
      exact this
    have key : ∀ y : Value, (sv0 ++ [x]).toArray.setIfInBounds ((sv0 ++ [x]).toArray.size - 1) y = (sv0 ++ [y]).toArray := fun y => by
      apply Array.ext'
      simp
    rw [key] at hP2
    refine ⟨_, hP2, ?_⟩
    rw [List.map_append, List.map_cons, List.map_nil, asInts_snoc, cost_snoc, show ((n.length + 7 + (cost l + (piece c).length) : Nat) : Int) = ((n.length + 7 + cost l : Nat) : Int) + ((piece c).length : Nat) by omega]
    exact h0.append (.cons _ _ .nil)
  · obtain ⟨v, p, q⟩ := g3 j b k h3 h4
    exact ⟨v, p.but hs2.extBut (T.cut.fresh b (List.mem_of_getElem? h3)).2.2.2.2.2.1, q⟩
end
end Mine
end

section
open PySem PySem.W PyProof.Rows PySem.Calls
set_option Elab.async false
set_option maxRecDepth 100000
set_option maxHeartbeats 2000000
namespace Mine
theorem cutStep_flatten (cap : Nat) (ws : List (List Nat)) (c : Nat) : (cutStep cap ws c).flatten = ws.flatten ++ [c] := by
  rcases List.eq_nil_or_concat ws with rfl | ⟨ws', l, rfl⟩
  · rfl
  · rw [List.concat_eq_append]
    by_cases h : cap < cost l + (piece c).length
    · rw [cutStep_new h]; simp
    · rw [cutStep_old h]; simp
theorem cutStep_len (cap : Nat) (ws : List (List Nat)) (c : Nat) : (cutStep cap ws c).length ≤ ws.length + 1 := by
  rcases List.eq_nil_or_concat ws with rfl | ⟨ws', l, rfl⟩
  · simp [cutStep_nil]
  · rw [List.concat_eq_append]
    by_cases h : cap < cost l + (piece c).length
    · rw [cutStep_new h]; simp
    · rw [cutStep_old h]; simp
theorem cut_snoc (cap : Nat) (row : List Nat) (c : Nat) : cut cap (row ++ [c]) = cutStep cap (cut cap row) c := by
  unfold cut; rw [List.foldl_append]; rfl
theorem cut_take (cap : Nat) {row : List Nat} {i : Nat} (h : i < row.length) : cut cap (row.take (i + 1)) = cutStep cap (cut cap (row.take i)) row[i] := by
  rw [← cut_snoc, List.take_succ_eq_append_getElem h]
theorem cut_bound (cap : Nat) (row : List Nat) : ∀ i, i ≤ row.length → (cut cap (row.take i)).length ≤ i ∧ (cut cap (row.take i)).flatten = row.take i
  | 0, _ => by simp [cut]
  | i + 1, h => by
    obtain ⟨h1, h2⟩ := cut_bound cap row i (by omega)
    rw [cut_take cap (by omega), cutStep_flatten, h2, List.take_succ_eq_append_getElem (by omega)]
    have := cutStep_len cap (cut cap (row.take i)) row[i]
    exact ⟨by omega, rfl⟩

section
variable {prog : Program} {w : World} {A : Around} {E : Value → Shared → Prop} {s : Shared} {mg mb : Str → Option Value}
theorem law_loop {env : Env} {h₀ : Heap} {n : Str} {cap : Nat} {r Wd Sz : Addr} {row : List Nat} {m : Str → Option Value} {Q : Flow → Shared → Prop} (G0 : Gl mg mb h₀) (R : Rm A 19) (K : Ks env) (hL : h₀.objs.size ≤ env.locals) (hn : n.length ≤ 10) (hrow : ∀ c ∈ row, c < 256) (hlen : row.length ≤ 100)
    (H : LawIn h₀ s.heap env.locals n (cap + n.length + 7 : Nat) r row m) (hw : m (Str.ofString "words") = some (.ref Wd)) (hsz : m (Str.ofString "sizes") = some (.ref Sz)) (hPW : PL s.heap Wd #[]) (hPS : PL s.heap Sz #[])
    (W3 : h₀.objs.size ≤ Wd ∧ Wd ≠ env.locals ∧ Wd ≠ env.locals + 1) (S3 : h₀.objs.size ≤ Sz ∧ Sz ≠ env.locals ∧ Sz ≠ env.locals + 1) (rL : r ≠ env.locals) (Wr : Wd ≠ r) (Sr : Sz ≠ r) (WS : Wd ≠ Sz)
    (h : ∀ h' tk m' as I, LawIn h₀ h' env.locals n (cap + n.length + 7 : Nat) r row m' → m' (Str.ofString "words") = some (.ref Wd) → m' (Str.ofString "sizes") = some (.ref Sz) → CutAt h₀ h' env.locals r Wd Sz I as (cut cap row) (n.length + 7) → wpAny (model prog w) A (execs ((bodyAt 24).drop 8) env) Q E { s with heap := h', toks := tk }) :
    wpAny (model prog w) A (execs ((bodyAt 24).drop 7) env) Q E s := by
  have hkd := K.kind
  obtain ⟨rv, hPr, hrv⟩ := H.rowv
  refine wpAny_execs_cons (wpAny_For ?_)
  refine nm_loc H.ns H.rowN ?_ hkd K.loc
  refine wpAny_pyIter_list hPr.isList ?_
  obtain ⟨I, hI⟩ : ∃ I : Nat, I = s.heap.objs.size := ⟨_, rfl⟩
  rw [← hI]
  have k1 : Kp s.heap (s.heap.push ⟨.type "list_iterator", none, .fields #[.ref r, .int 0 0], #[]⟩) := (Kp.refl _).push _
  have hL' : @LE.le Nat instLENat h₀.objs.size env.locals := hL
  have hLs : @LT.lt Nat instLTNat (env.locals + 1) s.heap.objs.size := let ⟨_, c⟩ := H.cell; let ⟨_, e, _⟩ := c; Heap.lt_size e
  have hWs := hPW.lt
  have hSs := hPS.lt
  have hrs := hPr.lt
  have P : Apart h₀ env.locals r Wd Sz I := { hL := hL, rL := rL, W0 := W3.1, WL := W3.2.1, Wc := W3.2.2, Wr := Wr, WI := fun e => by have e' : @Eq Nat Wd I := e; omega, S0 := S3.1, SL := S3.2.1, Sc := S3.2.2, Sr := Sr, SI := fun e => by have e' : @Eq Nat Sz I := e; omega, WS := WS, I0 := by show @LE.le Nat instLENat _ _; omega, IL := fun e => by have e' : @Eq Nat I env.locals := e; omega, Ic := fun e => by have e' : @Eq Nat I (env.locals + 1) := e; omega, Ir := fun e => by have e' : @Eq Nat I r := e; omega }
  have T0 : Turn h₀ (s.heap.push ⟨.type "list_iterator", none, .fields #[.ref r, .int 0 0], #[]⟩) env.locals r Wd Sz I n cap row 0 [] [] m :=
    { law := H.kept k1, w := hw, s := hsz, it := by rw [hI]; exact ⟨_, Heap.get?_push_size _ rfl, rfl, rfl⟩, cut := .nil (hPW.kept k1) (hPS.kept k1) }
  have turn : ∀ {h1 : Heap} {tk1 : Nat} {i : Nat} {as : List Addr} {m : Str → Option Value} (hlt : i < row.length), Turn h₀ h1 env.locals r Wd Sz I n cap row (i + 1) as (cut cap (row.take i)) m → (∃ t, m (Str.ofString "octet") = some (.int (row[i] : Nat) t)) → ∀ {Q' : Flow → Shared → Prop} {E' : Value → Shared → Prop},
      (∀ h' tk as' m', Turn h₀ h' env.locals r Wd Sz I n cap row (i + 1) as' (cut cap (row.take (i + 1))) m' → Q' .next { s with heap := h', toks := tk }) → wpAny (model prog w) A (execs loopBody env) Q' E' { s with heap := h1, toks := tk1 } := by
    intro h1 tk1 i as m hlt T hoct Q' E' hq
    have hc : row[i] < 256 := hrow _ (List.getElem_mem hlt)
    obtain ⟨b1, b2⟩ := cut_bound cap row i (by omega)
    refine turn_head (s := { s with heap := h1, toks := tk1 }) G0 R K hL rL T.law hn hc hoct T.w T.s fun h2 tk2 m2 L2 ho2 hz2 hw2 hs2 x2 => ?_
    have T2 : Turn h₀ h2 env.locals r Wd Sz I n cap row (i + 1) as (cut cap (row.take i)) m2 := { law := L2, w := hw2, s := hs2, it := T.it.extBut x2 P.IL, cut := T.cut.but x2 P.WL P.SL fun a ha => (T.cut.fresh a ha).2.1 }
    refine turn_if (s := { s with heap := h2, toks := tk2 }) G0 R K P T2 hn (by omega) hz2 fun h3 tk3 as' a ws' l T3 hcs => ?_
    have hfl := cutStep_flatten cap (cut cap (row.take i)) row[i]
    have hln := cutStep_len cap (cut cap (row.take i)) row[i]
    rw [hcs] at hfl hln
    have h4 := congrArg List.length hfl
    rw [b2] at h4
    simp only [List.flatten_append, List.length_append, List.flatten_cons, List.flatten_nil, List.length_cons, List.length_nil, List.length_take, List.append_nil] at h4 hln
    refine turn_tail (s := { s with heap := h3, toks := tk3 }) R K P T3 (by omega) (by omega) ho2 hz2 fun h5 tk5 T5 => ?_
    refine hq h5 tk5 (as' ++ [a]) m2 ?_
    rw [cut_take cap hlt, hcs]
    exact T5
  refine codeAny_forLoop (fun k s' => ∃ h' tk m i as, s' = { s with heap := h', toks := tk } ∧ Turn h₀ h' env.locals r Wd Sz I n cap row i as (cut cap (row.take i)) m ∧ i ≤ row.length ∧ k = row.length + 1 - i) ?_ (row.length + 1) ⟨_, _, m, 0, [], rfl, T0, Nat.zero_le _, rfl⟩
  rintro k s' ⟨h1, tk1, m1, i, as, rfl, T, hile, rfl⟩
  obtain ⟨rv1, hPr1, hrv1⟩ := T.law.rowv
  by_cases hlt : i < row.length
  · obtain ⟨t, hx⟩ := hrv1.get i (row[i] : Nat) (by simp [asInts, hlt])
    refine wpAny_pyNext_list_item T.it hPr1.isList (x := .int (row[i] : Nat) t) (by simpa using hx) fun h2 hit2 hs2 => ?_
    have T2 : Turn h₀ h2 env.locals r Wd Sz I n cap row (i + 1) as (cut cap (row.take i)) m1 := { law := T.law.but P.IL P.Ic P.Ir P.I0 hs2, w := T.w, s := T.s, it := hit2, cut := T.cut.but hs2.extBut P.WI P.SI fun a ha => (T.cut.fresh a ha).2.2.2.2.2.2 }
    refine wpAny_assign_Name (st_loc T2.law.ns hkd K.loc fun h3 hn3 hs3 => ?_)
    have T3 := T2.store P hn3 hs3 (by decide +kernel) (by decide +kernel) (by decide +kernel) (by decide +kernel)
    refine turn hlt T3 ⟨_, if_pos rfl⟩ fun h4 tk4 as4 m4 T4 => ?_
    exact ⟨row.length + 1 - (i + 1), by omega, h4, tk4, m4, i + 1, as4, rfl, T4, hlt, rfl⟩
  · obtain rfl : i = row.length := by omega
    refine wpAny_pyNext_list_end R.hh T.it hPr1.isList (by have := hrv1.length; rw [asInts_len] at this; simp [this]) fun h2 he2 => wpAny_execs_nil ?_
    rw [List.take_length] at T
    refine h h2 _ m1 as I { ns := T.law.ns.extBut he2 (Ne.symm P.IL), kp := fun b o e => he2 b o (fun e' => absurd (Heap.lt_size e) (by rw [e']; exact Nat.not_lt.mpr P.I0)) (T.law.kp b o e), cell := ?_, limit := T.law.limit, rowN := T.law.rowN, rowv := ?_ } T.w T.s (T.cut.but he2 P.WI P.SI fun a ha => (T.cut.fresh a ha).2.2.2.2.2.2)
    · obtain ⟨t, o, e, d⟩ := T.law.cell
      exact ⟨t, o, he2 _ _ (Ne.symm P.Ic) e, d⟩
    · exact ⟨rv1, hPr1.but he2 (Ne.symm P.Ir), hrv1⟩
end
end Mine
end

section
open PySem PySem.W PyProof.Rows PySem.Calls
set_option Elab.async false
set_option maxRecDepth 100000
set_option maxHeartbeats 2000000
namespace Mine
theorem slice_inside {n : Str} {l : List Nat} {t t1 t2 : Tok} {Q : Value → Shared → Prop} {s : Shared} (hn : n.length ≤ 10) (hl : l.length ≤ 100) (h : ∀ t' k, Q (.str (enc l) t') { s with toks := k }) :
    (sliceMade (encName n l) t (some (((n.length : Nat) : Int) + 5, t1)) (some (-2, t2)) none).post Q s := by
  have hlen := encName_len n l
  have hc : cost l = (l.flatMap piece).length := by rw [cost, List.length_flatMap]
  have hx : (encName n l).cps.toList = (Str.ofString "=?" ++ n ++ Str.ofString "?q?").cps.toList ++ (l.flatMap piece ++ (Str.ofString "?=").cps.toList) := by
    unfold encName wrap
    rw [app_list', app_list', List.append_assoc]
    rfl
  have hp : (Str.ofString "=?" ++ n ++ Str.ofString "?q?").cps.toList.length = n.length + 5 := by
    show (Str.ofString "=?" ++ n ++ Str.ofString "?q?").length = _
    rw [Str.length_append, Str.length_append, show (Str.ofString "=?").length = 2 by decide +kernel, show (Str.ofString "?q?").length = 3 by decide +kernel]; omega
  have hsp : slicePicked (encName n l) (some (((n.length : Nat) : Int) + 5, t1)) (some (-2, t2)) none = (List.range (l.flatMap piece).length).map ((Str.ofString "=?" ++ n ++ Str.ofString "?q?").cps.toList.length + ·) := by
    unfold slicePicked Builtin.Str.strSliceIndices
    dsimp only [Option.map, Option.getD]
    simp only [show (1 : Int) > 0 by decide, show (-2 : Int) < 0 by decide, if_true]
    rw [if_neg (by omega)]
    have e1 : max 0 (min (((n.length : Nat) : Int) + 5) ((encName n l).length : Int)) = ((n.length + 5 : Nat) : Int) := by omega
    have e2 : max 0 (min (-2 + ((encName n l).length : Int)) ((encName n l).length : Int)) = ((n.length + 5 + cost l : Nat) : Int) := by omega
    rw [e1, e2, sliceRange_one, hp, ← hc, show n.length + 5 + cost l - (n.length + 5) = cost l by omega]
  unfold sliceMade
  rw [hsp, if_neg (by
    simp only [List.length_map, List.length_range, Bool.and_eq_true, beq_iff_eq, not_and]
    intro _
    omega), pick_run, hx, List.drop_left, List.take_left]
  refine ⟨?_, ?_⟩
  · show (l.flatMap piece).toArray.size ≤ sizeLine
    have := pieces_le l
    rw [List.size_toArray, sizeLine_eq, ← hc]
    unfold cost
    omega
  · exact h _ _
end Mine
end

section
open PySem PySem.W PyProof.Rows PySem.Calls
set_option Elab.async false
set_option maxRecDepth 100000
set_option maxHeartbeats 2000000
namespace Mine
theorem PL.unique {h : Heap} {a : Addr} {x y : Array Value} (p : PL h a x) (q : PL h a y) : x = y := by
  obtain ⟨o, e, _, _, n, d⟩ := p
  obtain ⟨o', e', _, _, n', d'⟩ := q
  rw [e] at e'; cases e'
  rw [d] at d'; cases d'; rfl
theorem ints_unique {vs : List Value} {a b : List Nat} (p : IntsAre vs (asInts a)) (q : IntsAre vs (asInts b)) : a = b := by
  have e : asInts a = asInts b := by rw [← p.numsOf, ← q.numsOf]
  have hinj : Function.Injective Int.ofNat := fun x y h => Int.ofNat.inj h
  unfold asInts at e
  exact (List.map_inj_right (fun x y h => Int.ofNat.inj h)).mp e

/-- the cell's name inside a comprehension of the law -/
theorem comp_cell {M : Model} {A : Around} {E : Value → Shared → Prop} {s : Shared} {env : Env} {sco : Scope} {C : Addr} {pos : Pos} {v : Value} {Q : Value → Shared → Prop} (hk : sco.kind = .function) (hl : (compEnvC sco [(Str.ofString "name", env.locals + 1)] C env).kindOf (Str.ofString "name") = some .cell)
    (hc : s.heap.IsCell (env.locals + 1) (some v)) (h : Q v s) : wpAny M A (eval (.Name (Str.ofString "name") pos) (compEnvC sco [(Str.ofString "name", env.locals + 1)] C env)) Q E s :=
  wpAny_Name (wpAny_loadName_cell (by exact hk) hl (by rfl) hc h) (by decide +kernel)

section
variable {prog : Program} {w : World} {A : Around} {E : Value → Shared → Prop} {s : Shared} {mg mb : Str → Option Value}
theorem law_written {env : Env} {h₀ : Heap} {n : Str} {cap : Nat} {r Wd Sz I : Addr} {row : List Nat} {m : Str → Option Value} {as : List Addr} {ws : List (List Nat)} {Q : Flow → Shared → Prop} (G0 : Gl mg mb h₀) (R : Rm A 19) (K : Ks env) (hL : h₀.objs.size ≤ env.locals) (rL : r ≠ env.locals) (WL : Wd ≠ env.locals) (SL : Sz ≠ env.locals) (hn : n.length ≤ 10)
    (hws : ∀ l ∈ ws, l ≠ [] ∧ l.length ≤ 100 ∧ ∀ c ∈ l, c < 256) (hwl : ws.length ≤ 100)
    (H : LawIn h₀ s.heap env.locals n (cap + n.length + 7 : Nat) r row m) (hw : m (Str.ofString "words") = some (.ref Wd)) (hsz : m (Str.ofString "sizes") = some (.ref Sz)) (C : CutAt h₀ s.heap env.locals r Wd Sz I as ws (n.length + 7))
    (h : ∀ h' tk m' D ys, LawIn h₀ h' env.locals n (cap + n.length + 7 : Nat) r row m' → m' (Str.ofString "words") = some (.ref Wd) → m' (Str.ofString "sizes") = some (.ref Sz) → m' (Str.ofString "written") = some (.ref D) → D ≠ env.locals →
      PL h' Wd (as.map Value.ref).toArray → (∃ sv, PL h' Sz sv.toArray ∧ IntsAre sv (asInts (ws.map fun l => n.length + 7 + cost l))) → PL h' D ys → StrsAre ys.toList (ws.map (encName n)) → wpAny (model prog w) A (execs ((bodyAt 24).drop 9) env) Q E { s with heap := h', toks := tk }) :
    wpAny (model prog w) A (execs ((bodyAt 24).drop 8) env) Q E s := by
  have hkd := K.kind
  refine wpAny_execs_cons (comp_assign (F := fun v y => ∃ a vs l t, v = .ref a ∧ PL s.heap a vs.toArray ∧ IntsAre vs (asInts l) ∧ y = .str (encName n l) t) (m := m) (cl := [(Str.ofString "name", env.locals + 1)]) R.hh (sw_true hkd K.loc (by decide +kernel)) ?_ (by decide +kernel) (by rfl) (by decide +kernel) (by decide +kernel) K.loc (by rw [hkd]; rfl) ?_)
  · unfold closureFor cellOf
    simp [K.nm]
  refine nm_loc H.ns hw ?_ hkd K.loc
  refine ⟨Wd, _, rfl, C.words.isList, by rw [List.size_toArray, List.length_map, C.len]; omega, H.ns, fun Cm v s₃ m₃ E' hC hv hns hm hkp => ?_, fun D h7 tk7 ys hD hPD hF hn7 hk7 => ?_⟩
  · have hv' : v ∈ as.map Value.ref := by simpa using hv
    obtain ⟨a, ha, rfl⟩ := List.mem_map.mp hv'
    obtain ⟨j, hj, rfl⟩ := List.getElem_of_mem ha
    have hjw : j < ws.length := by rw [← C.len]; exact hj
    obtain ⟨vs, hP, hi⟩ := C.each j as[j] ws[j] (List.getElem?_eq_getElem hj) (List.getElem?_eq_getElem hjw)
    obtain ⟨w1, w2, w3⟩ := hws ws[j] (List.getElem_mem hjw)
    have G3 := G0.keeps (H.kp.trans hkp)
    obtain ⟨tn, hcell⟩ := H.cell
    refine Call_Name2 (nm_glob (K.g ▸ G3.g) G3.v_encode ?_ (by rfl) (by rfl))
    refine callWith_fn2 G3.f_encode ?_
    refine Call_Name1 (nm_blt (K.g ▸ G3.g) G3.n_bytes (K.b ▸ G3.b) G3.b_bytes ?_ (by rfl) (by rfl))
    refine callWith_type1 (nm_loc hns hm ?_ (by rfl) (by rfl))
    refine call_bytes_ints (hP.kept hkp).isList hi (asInts_byte w3) (by rw [hi.length, asInts_len, sizeLine_eq]; omega) R.hh fun h4 t4 tk4 hk4 => ?_
    refine comp_cell (by rfl) ?_ ((hcell.keeps hkp).keeps hk4) ⟨hk4, ?_⟩
    · unfold Env.kindOf compEnvC relabel
      simp only [List.map_cons, List.map_nil, K.kind, K.cell]
      rfl
    rw [byteArr_asInts]
    refine encode_spec (G3.keeps hk4) (R.less (by omega)) w3 w1 (by omega) (by omega) fun h5 tk5 t5 hk5 => ?_
    exact ⟨⟨as[j], vs, ws[j], t5, rfl, hP, hi, rfl⟩, h5, tk5, rfl, fun b o e => hk5 b o (hk4 b o e)⟩
  · have hDL : D ≠ env.locals := by
      rintro rfl
      obtain ⟨_, _, _, e, _⟩ := H.ns
      rw [hD] at e; cases e
    have hx : Heap.ExtBut env.locals s.heap h7 := hk7
    obtain ⟨tl, hlim⟩ := H.limit
    obtain ⟨rv, hPr, hrv⟩ := H.rowv
    obtain ⟨tn, oc, hoc, hocd⟩ := H.cell
    have L7 : LawIn h₀ h7 env.locals n (cap + n.length + 7 : Nat) r row _ := { ns := hn7, kp := fun b o e => hk7 b o (Nat.ne_of_lt (Nat.lt_of_lt_of_le (Heap.lt_size e) hL)) (H.kp b o e), cell := ⟨tn, oc, hk7 _ _ (Nat.succ_ne_self _) hoc, hocd⟩, limit := ⟨tl, (if_neg (by decide +kernel)).trans hlim⟩, rowN := (if_neg (by decide +kernel)).trans H.rowN, rowv := ⟨rv, hPr.but hx rL, hrv⟩ }
    refine h h7 tk7 _ D ys L7 ((if_neg (by decide +kernel)).trans hw) ((if_neg (by decide +kernel)).trans hsz) (if_pos rfl) hDL (C.words.but hx WL) (let ⟨sv, p, q⟩ := C.sizes; ⟨sv, p.but hx SL, q⟩) hPD ?_
    have key : ∀ {as : List Addr} {ws : List (List Nat)} {zs : List Value}, as.length = ws.length → (∀ (j : Nat) (a : Addr) (l : List Nat), as[j]? = some a → ws[j]? = some l → ∃ vs, PL s.heap a vs.toArray ∧ IntsAre vs (asInts l)) →
        Paired (fun v y => ∃ a vs l t, v = .ref a ∧ PL s.heap a vs.toArray ∧ IntsAre vs (asInts l) ∧ y = .str (encName n l) t) (as.map Value.ref) zs → StrsAre zs (ws.map (encName n)) := by
      intro as
      induction as with
      | nil =>
        intro ws zs h1 _ h3
        cases h3
        cases ws with
        | nil => exact .nil
        | cons _ _ => cases h1
      | cons a as ih =>
        intro ws zs h1 h2 h3
        cases ws with
        | nil => cases h1
        | cons l ws =>
          cases h3 with
          | cons f1 f2 =>
            obtain ⟨a', vs, l', t, e1, p1, q1, rfl⟩ := f1
            cases e1
            obtain ⟨vs', p2, q2⟩ := h2 0 a l rfl rfl
            have e := p1.unique p2
            have e : vs = vs' := by simpa using e
            subst e
            rw [ints_unique q1 q2]
            exact .cons _ _ (ih (by simpa using h1) (fun j b k g1 g2 => h2 (j + 1) b k (by simpa using g1) (by simpa using g2)) f2)
    exact key C.len C.each (by simpa using hF)
end
end Mine
end

section
open PySem PySem.W PyProof.Rows PySem.Calls
set_option Elab.async false
set_option maxRecDepth 100000
set_option maxHeartbeats 2000000
namespace Mine
theorem strs_mem {vs : List Value} {ys : List Str} (h : StrsAre vs ys) : ∀ v ∈ vs, ∃ x t, v = .str x t ∧ x ∈ ys := by
  induction h with
  | nil => intro v hv; cases hv
  | cons y t _ ih =>
    intro v hv
    rcases List.mem_cons.mp hv with rfl | hv
    · exact ⟨y, t, rfl, List.mem_cons_self⟩
    · obtain ⟨x, t', e, hx⟩ := ih v hv
      exact ⟨x, t', e, List.mem_cons_of_mem _ hx⟩
theorem pair_lens {vs : List Value} {ys : List Str} {zs : List Value} (h : StrsAre vs ys) (p : Paired (fun v y => ∃ (x : Str) (t t' : Tok), v = .str x t ∧ y = .int x.length t') vs zs) : IntsAre zs (asInts (ys.map fun x => x.length)) := by
  induction h generalizing zs with
  | nil => cases p; exact .nil
  | cons y t _ ih =>
    cases p with
    | cons f1 f2 =>
      obtain ⟨x, t1, t2, e, rfl⟩ := f1
      cases e
      exact .cons _ _ (ih f2)
theorem encName_enc {n : Str} {l l' : List Nat} (h : encName n l = encName n l') : enc l = enc l' := by
  have hx : ∀ l, (encName n l).cps.toList = (Str.ofString "=?" ++ n ++ Str.ofString "?q?").cps.toList ++ (l.flatMap piece ++ (Str.ofString "?=").cps.toList) := fun l => by
    unfold encName wrap
    rw [app_list', app_list', List.append_assoc]
    rfl
  have e := congrArg (fun x => x.cps.toList) h
  simp only [hx] at e
  have e1 := List.append_cancel_right (List.append_cancel_left e)
  unfold enc
  rw [e1]
theorem pair_inside {n : Str} {ws : List (List Nat)} {vs zs : List Value} (h : StrsAre vs (ws.map (encName n))) (p : Paired (fun v y => ∃ (l : List Nat) (t t' : Tok), v = .str (encName n l) t ∧ y = .str (enc l) t') vs zs) : StrsAre zs (ws.map enc) := by
  induction ws generalizing vs zs with
  | nil => cases h; cases p; exact .nil
  | cons l ws ih =>
    cases h with
    | cons _ t h =>
      cases p with
      | cons f1 f2 =>
        obtain ⟨l', t1, t2, e, rfl⟩ := f1
        injection e with e _
        rw [← encName_enc e]
        exact .cons _ _ (ih h f2)

section
variable {prog : Program} {w : World} {A : Around} {E : Value → Shared → Prop} {s : Shared} {mg mb : Str → Option Value}
theorem law_lens {env : Env} {h₀ : Heap} {n : Str} {cap : Nat} {r Wd Sz D : Addr} {row : List Nat} {m : Str → Option Value} {ws : List (List Nat)} {ys : Array Value} {sv : List Value} {Q : Flow → Shared → Prop} (G0 : Gl mg mb h₀) (R : Rm A 19) (K : Ks env) (hn : n.length ≤ 10)
    (hws : ∀ l ∈ ws, l ≠ [] ∧ l.length ≤ 100 ∧ ∀ c ∈ l, c < 256) (hwl : ws.length ≤ 100)
    (H : LawIn h₀ s.heap env.locals n (cap + n.length + 7 : Nat) r row m) (hsz : m (Str.ofString "sizes") = some (.ref Sz)) (hwr : m (Str.ofString "written") = some (.ref D))
    (hPS : PL s.heap Sz sv.toArray) (hsv : IntsAre sv (asInts (ws.map fun l => n.length + 7 + cost l))) (hPD : PL s.heap D ys) (hys : StrsAre ys.toList (ws.map (encName n)))
    (h : ∀ h' tk, Kp s.heap h' → wpAny (model prog w) A (execs ((bodyAt 24).drop 10) env) Q E { s with heap := h', toks := tk }) :
    wpAny (model prog w) A (execs ((bodyAt 24).drop 9) env) Q E s := by
  have hkd := K.kind
  have hyl : ys.size = ws.length := by have := strsAre_size hys; rw [List.length_map] at this; exact this
  refine wpAny_execs_cons (wpAny_If (wpAny_isTrue_Compare1 ?_))
  refine comp_eval (F := fun v y => ∃ (x : Str) (t t' : Tok), v = .str x t ∧ y = .int x.length t') (cl := []) R.hh (by rfl) (by decide +kernel) (by rfl) (by decide +kernel) (by decide +kernel) ?_
  refine nm_loc H.ns hwr ?_ hkd K.loc
  refine ⟨D, ys, rfl, hPD.isList, by omega, fun Cm v s₃ m₃ E' hC hv hns hm hkp => ?_, fun D2 h7 tk7 ys2 hD hPD2 hF hk7 => ?_⟩
  · obtain ⟨x, t, rfl, hx⟩ := strs_mem hys v (by simpa using hv)
    obtain ⟨l, hl, rfl⟩ := List.mem_map.mp hx
    obtain ⟨_, w2, _⟩ := hws l hl
    have hb : cost l ≤ 3 * l.length := by have := pieces_le l; unfold cost; omega
    have G3 := G0.keeps (H.kp.trans hkp)
    refine Call_Name1 (nm_blt (K.g ▸ G3.g) G3.n_len (K.b ▸ G3.b) G3.b_len ?_ (by rfl) (by rfl))
    refine callWith_builtin1 (nm_loc hns hm ?_ (by rfl) (by rfl))
    refine PySem.P.len_str (by have := encName_len n l; omega) ?_
    exact ⟨⟨_, _, _, rfl, rfl⟩, s₃.heap, _, rfl, Kp.refl _⟩
  · have hi2 := pair_lens hys hF
    have e : ((ws.map (encName n)).map fun x => x.length) = ws.map fun l => n.length + 7 + cost l := by
      rw [List.map_map]
      refine List.map_congr_left fun l _ => ?_
      show (encName n l).length = _
      rw [encName_len]; omega
    rw [e] at hi2
    have H7 := H.kept hk7
    refine nm_loc H7.ns hsz ?_ hkd K.loc
    have hPD2' : PL h7 D2 ys2.toList.toArray := by rw [Array.toArray_toList]; exact hPD2
    refine ne_intsK hPD2'.isList hi2 (hPS.kept hk7).isList hsv (by have := R.un; omega) ?_
    refine wpAny_truthy_bool ?_
    rw [if_neg (by simp)]
    exact wpAny_execs_nil (h h7 _ hk7)

theorem law_inside {env : Env} {h₀ : Heap} {n : Str} {cap : Nat} {r Wd D : Addr} {row : List Nat} {m : Str → Option Value} {ws : List (List Nat)} {ys : Array Value} {q : Array Value} {Q : Flow → Shared → Prop} (G0 : Gl mg mb h₀) (R : Rm A 19) (K : Ks env) (hL : h₀.objs.size ≤ env.locals) (rL : r ≠ env.locals) (WL : Wd ≠ env.locals) (hn : n.length ≤ 10)
    (hws : ∀ l ∈ ws, l ≠ [] ∧ l.length ≤ 100 ∧ ∀ c ∈ l, c < 256) (hwl : ws.length ≤ 100)
    (H : LawIn h₀ s.heap env.locals n (cap + n.length + 7 : Nat) r row m) (hw : m (Str.ofString "words") = some (.ref Wd)) (hwr : m (Str.ofString "written") = some (.ref D))
    (hPW : PL s.heap Wd q) (hPD : PL s.heap D ys) (hys : StrsAre ys.toList (ws.map (encName n)))
    (h : ∀ h' tk m' D' ys', LawIn h₀ h' env.locals n (cap + n.length + 7 : Nat) r row m' → m' (Str.ofString "words") = some (.ref Wd) → m' (Str.ofString "inside") = some (.ref D') → PL h' Wd q → PL h' D' ys' → StrsAre ys'.toList (ws.map enc) →
      wpAny (model prog w) A (execs ((bodyAt 24).drop 11) env) Q E { s with heap := h', toks := tk }) :
    wpAny (model prog w) A (execs ((bodyAt 24).drop 10) env) Q E s := by
  have hkd := K.kind
  have hyl : ys.size = ws.length := by have := strsAre_size hys; rw [List.length_map] at this; exact this
  refine wpAny_execs_cons (comp_assign (F := fun v y => ∃ (l : List Nat) (t t' : Tok), v = .str (encName n l) t ∧ y = .str (enc l) t') (m := m) (cl := [(Str.ofString "name", env.locals + 1)]) R.hh (sw_true hkd K.loc (by decide +kernel)) ?_ (by decide +kernel) (by rfl) (by decide +kernel) (by decide +kernel) K.loc (by rw [hkd]; rfl) ?_)
  · unfold closureFor cellOf
    simp [K.nm]
  refine nm_loc H.ns hwr ?_ hkd K.loc
  refine ⟨D, ys, rfl, hPD.isList, by omega, H.ns, fun Cm v s₃ m₃ E' hC hv hns hm hkp => ?_, fun D2 h7 tk7 ys2 hD hPD2 hF hn7 hk7 => ?_⟩
  · obtain ⟨x, t, rfl, hx⟩ := strs_mem hys v (by simpa using hv)
    obtain ⟨l, hl, rfl⟩ := List.mem_map.mp hx
    obtain ⟨_, w2, _⟩ := hws l hl
    have G3 := G0.keeps (H.kp.trans hkp)
    obtain ⟨tn, hcell⟩ := H.cell
    refine wpAny_Subscript_str_slice (nm_loc hns hm ?_ (by rfl) (by rfl))
    refine evalPart_some_step (wpAny_BinOp ?_)
    refine Call_Name1 (nm_blt (K.g ▸ G3.g) G3.n_len (K.b ▸ G3.b) G3.b_len ?_ (by rfl) (by rfl))
    refine callWith_builtin1 ?_
    refine comp_cell (by rfl) ?_ (hcell.keeps hkp) ?_
    · unfold Env.kindOf compEnvC relabel
      simp only [List.map_cons, List.map_nil, K.kind, K.cell]
      rfl
    refine PySem.P.len_str (by omega) ?_
    refine wpAny_Constant_int ?_
    refine add_int ?_
    refine evalPart_some_step (UnaryOp_ (wpAny_Constant_int (neg_int ?_)))
    refine ⟨_, _, some (((n.length : Nat) : Int) + 5, _), some (-2, _), rfl, rfl, rfl, ?_⟩
    refine slice_inside hn w2 fun t' k => ?_
    exact ⟨⟨l, t, t', rfl, rfl⟩, _, k, rfl, (Kp.refl _).push _⟩
  · have hx : Heap.ExtBut env.locals s.heap h7 := hk7
    obtain ⟨tl, hlim⟩ := H.limit
    obtain ⟨rv, hPr, hrv⟩ := H.rowv
    obtain ⟨tn, oc, hoc, hocd⟩ := H.cell
    have L7 : LawIn h₀ h7 env.locals n (cap + n.length + 7 : Nat) r row _ := { ns := hn7, kp := fun b o e => hk7 b o (Nat.ne_of_lt (Nat.lt_of_lt_of_le (Heap.lt_size e) hL)) (H.kp b o e), cell := ⟨tn, oc, hk7 _ _ (Nat.succ_ne_self _) hoc, hocd⟩, limit := ⟨tl, (if_neg (by decide +kernel)).trans hlim⟩, rowN := (if_neg (by decide +kernel)).trans H.rowN, rowv := ⟨rv, hPr.but hx rL, hrv⟩ }
    exact h h7 tk7 _ D2 ys2 L7 ((if_neg (by decide +kernel)).trans hw) (if_pos rfl) (hPW.but hx WL) hPD2 (pair_inside hys hF)
end
end Mine
end

section
open PySem PySem.W PyProof.Rows PySem.Calls
set_option Elab.async false
set_option maxRecDepth 100000
set_option maxHeartbeats 2000000
namespace Mine
def unhex (d : Nat) : Nat := if d < 58 then d - 48 else d - 55
def undo (x : List Nat) : Nat × List Nat := if x.headD 0 = 61 then (unhex (x.getD 1 0) * 16 + unhex (x.getD 2 0), x.drop 3) else if x.headD 0 = 95 then (32, x.drop 1) else (x.headD 0, x.drop 1)
theorem unhex_hexd : ∀ d : Fin 16, unhex (hexd d.1) = d.1 := by decide
theorem safe_ne : ∀ c, safe c = true → c ≠ 61 ∧ c ≠ 95 := by
  intro c h
  constructor <;> (rintro rfl; exact absurd h (by decide))
theorem undo_piece {c : Nat} (h : c < 256) (rest : List Nat) : undo (piece c ++ rest) = (c, rest) := by
  unfold piece
  split
  · rename_i hs
    obtain ⟨h1, h2⟩ := safe_ne c hs
    unfold undo
    simp [h1, h2]
  · split
    · rename_i h1 h2
      have : c = 32 := by simpa using h2
      subst this
      rfl
    · unfold undo
      have e1 := unhex_hexd ⟨c / 16, by omega⟩
      have e2 := unhex_hexd ⟨c % 16, by omega⟩
      simp only at e1 e2
      simp [e1, e2]
      omega
theorem enc_inj : ∀ {l l' : List Nat}, (∀ c ∈ l, c < 256) → (∀ c ∈ l', c < 256) → l.flatMap piece = l'.flatMap piece → l = l'
  | [], [], _, _, _ => rfl
  | [], c :: r, _, _, h => by
    have := congrArg List.length h
    have p := (piece_pos c).1
    rw [List.flatMap_cons, List.length_append] at this
    have z : ([] : List Nat).flatMap piece = [] := rfl
    rw [z, List.length_nil] at this
    omega
  | c :: r, [], _, _, h => by
    have := congrArg List.length h
    have p := (piece_pos c).1
    rw [List.flatMap_cons, List.length_append] at this
    have z : ([] : List Nat).flatMap piece = [] := rfl
    rw [z, List.length_nil] at this
    omega
  | c :: r, c' :: r', h1, h2, h => by
    rw [List.flatMap_cons, List.flatMap_cons] at h
    have e := congrArg undo h
    rw [undo_piece (h1 c List.mem_cons_self), undo_piece (h2 c' List.mem_cons_self)] at e
    obtain ⟨e1, e2⟩ := Prod.mk.inj e
    rw [e1, enc_inj (fun x hx => h1 x (List.mem_cons_of_mem _ hx)) (fun x hx => h2 x (List.mem_cons_of_mem _ hx)) e2]
theorem enc_inj' {l l' : List Nat} (h1 : ∀ c ∈ l, c < 256) (h2 : ∀ c ∈ l', c < 256) (h : enc l = enc l') : l = l' := by
  refine enc_inj h1 h2 ?_
  have := congrArg (fun x => x.cps.toList) h
  simpa [enc, txt] using this

theorem pair_dec {ws : List (List Nat)} {vs zs : List Value} (hws : ∀ l ∈ ws, ∀ c ∈ l, c < 256) (h : StrsAre vs (ws.map enc)) (p : Paired (fun v y => ∃ (l : List Nat) (t t' : Tok), (∀ c ∈ l, c < 256) ∧ v = .str (enc l) t ∧ y = .str (txt l) t') vs zs) : StrsAre zs (ws.map txt) := by
  induction ws generalizing vs zs with
  | nil => cases h; cases p; exact .nil
  | cons l ws ih =>
    cases h with
    | cons _ t h =>
      cases p with
      | cons f1 f2 =>
        obtain ⟨l', t1, t2, hl', e, rfl⟩ := f1
        injection e with e _
        rw [← enc_inj' (hws l List.mem_cons_self) hl' e]
        exact .cons _ _ (ih (fun x hx => hws x (List.mem_cons_of_mem _ hx)) h f2)
theorem pair_chr {row : List Nat} {vs zs : List Value} (h : IntsAre vs (asInts row)) (p : Paired (fun v y => ∃ (c : Nat) (t t' : Tok), v = .int (c : Nat) t ∧ y = .str (txt [c]) t') vs zs) : StrsAre zs (row.map fun c => txt [c]) := by
  induction row generalizing vs zs with
  | nil => cases h; cases p; exact .nil
  | cons c row ih =>
    cases h with
    | cons _ t h =>
      cases p with
      | cons f1 f2 =>
        obtain ⟨c', t1, t2, e, rfl⟩ := f1
        injection e with e _
        have : c = c' := Int.ofNat.inj e
        rw [← this]
        exact .cons _ _ (ih h f2)
theorem flat_txt (ws : List (List Nat)) : flat (ws.map txt) = ws.flatten := by
  unfold flat
  induction ws with
  | nil => rfl
  | cons l r ih => rw [List.map_cons, List.flatMap_cons, ih]; rfl
theorem flat_ones (row : List Nat) : flat (row.map fun c => txt [c]) = row := by
  unfold flat
  induction row with
  | nil => rfl
  | cons c r ih => rw [List.map_cons, List.flatMap_cons, ih]; rfl

section
variable {prog : Program} {w : World} {A : Around} {E : Value → Shared → Prop} {s : Shared} {mg mb : Str → Option Value}
theorem law_joins {env : Env} {h₀ : Heap} {n : Str} {cap : Nat} {r D : Addr} {row : List Nat} {m : Str → Option Value} {ws : List (List Nat)} {ys : Array Value} {Q : Flow → Shared → Prop} (G0 : Gl mg mb h₀) (R : Rm A 19) (K : Ks env)
    (hws : ∀ l ∈ ws, l ≠ [] ∧ l.length ≤ 100 ∧ ∀ c ∈ l, c < 256) (hwl : ws.length ≤ 100) (hfl : ws.flatten = row) (hrow : ∀ c ∈ row, c < 256) (hlen : row.length ≤ 100)
    (H : LawIn h₀ s.heap env.locals n (cap + n.length + 7 : Nat) r row m) (hin : m (Str.ofString "inside") = some (.ref D)) (hPD : PL s.heap D ys) (hys : StrsAre ys.toList (ws.map enc))
    (h : ∀ h' tk, Kp s.heap h' → wpAny (model prog w) A (execs ((bodyAt 24).drop 12) env) Q E { s with heap := h', toks := tk }) :
    wpAny (model prog w) A (execs ((bodyAt 24).drop 11) env) Q E s := by
  have hkd := K.kind
  have hyl : ys.size = ws.length := by have := strsAre_size hys; rw [List.length_map] at this; exact this
  have he0 : Str.ofString "" = ⟨#[]⟩ := by decide +kernel
  refine wpAny_execs_cons (wpAny_If (wpAny_isTrue_Compare1 ?_))
  refine Call_method1 (by rfl) (by rfl) (by rfl) ?_
  refine wpAny_Constant_str ?_
  refine meth1 F.plainAttrs_str F.slot_str_join F.type_str_join (typeIs_str _ _ _) (fun _ e => nomatch e) ?_
  refine comp_eval (F := fun v y => ∃ (l : List Nat) (t t' : Tok), (∀ c ∈ l, c < 256) ∧ v = .str (enc l) t ∧ y = .str (txt l) t') (cl := []) R.hh (by rfl) (by decide +kernel) (by rfl) (by decide +kernel) (by decide +kernel) ?_
  refine nm_loc H.ns hin ?_ hkd K.loc
  refine ⟨D, ys, rfl, hPD.isList, by omega, fun Cm v s₃ m₃ E' hC hv hns hm hkp => ?_, fun D2 h7 tk7 ys2 hD hPD2 hF hk7 => ?_⟩
  · obtain ⟨x, t, rfl, hx⟩ := strs_mem hys v (by simpa using hv)
    obtain ⟨l, hl, rfl⟩ := List.mem_map.mp hx
    obtain ⟨_, w2, w3⟩ := hws l hl
    have G3 := G0.keeps (H.kp.trans hkp)
    refine Call_Name1 (nm_glob (K.g ▸ G3.g) G3.v_decode ?_ (by rfl) (by rfl))
    refine callWith_fn1 G3.f_decode (nm_loc hns hm ⟨Kp.refl _, ?_⟩ (by rfl) (by rfl))
    refine decode_spec G3 (R.less (by omega)) w3 (by omega) fun h4 tk4 t4 hk4 => ?_
    exact ⟨⟨l, t, t4, w3, rfl, rfl⟩, h4, tk4, rfl, hk4⟩
  · have hs2 := pair_dec (fun l hl => (hws l hl).2.2) hys hF
    rw [he0]
    refine join_list hPD2.isList hs2 (by rw [flat_len, flat_txt, hfl, List.length_map]; show _ + _ * 0 ≤ _; omega) fun t8 k8 => ?_
    rw [join_flat, flat_txt, hfl]
    dsimp only
    have H7 := H.kept hk7
    obtain ⟨rv, hPr, hrv⟩ := H7.rowv
    have hrl : rv.length = row.length := by rw [hrv.length, asInts_len]
    refine Call_method1 (by rfl) (by rfl) (by rfl) ?_
    refine wpAny_Constant_str ?_
    refine meth1 F.plainAttrs_str F.slot_str_join F.type_str_join (typeIs_str _ _ _) (fun _ e => nomatch e) ?_
    refine comp_eval (F := fun v y => ∃ (c : Nat) (t t' : Tok), v = .int (c : Nat) t ∧ y = .str (txt [c]) t') (cl := []) R.hh (by rfl) (by decide +kernel) (by rfl) (by decide +kernel) (by decide +kernel) ?_
    refine nm_loc H7.ns H7.rowN ?_ hkd K.loc
    refine ⟨r, rv.toArray, rfl, hPr.isList, by rw [List.size_toArray]; omega, fun Cm v s₃ m₃ E' hC hv hns hm hkp => ?_, fun D3 h9 tk9 ys3 hD3 hPD3 hF3 hk9 => ?_⟩
    · obtain ⟨j, hj, rfl⟩ := List.getElem_of_mem (show v ∈ rv by simpa using hv)
      have hjr : j < row.length := by rw [← hrl]; exact hj
      obtain ⟨t, ht⟩ := hrv.get j (row[j] : Nat) (by simp [asInts, hjr])
      rw [List.getElem?_eq_getElem hj] at ht
      have ht := Option.some.inj ht
      have hc := hrow _ (List.getElem_mem hjr)
      rw [ht] at hm
      have G3 := G0.keeps (H7.kp.trans hkp)
      refine Call_Name1 (nm_blt (K.g ▸ G3.g) G3.n_chr (K.b ▸ G3.b) G3.b_chr ?_ (by rfl) (by rfl))
      refine callWith_builtin1 (nm_loc hns hm ?_ (by rfl) (by rfl))
      refine chr_of_range (by omega) (by omega) ?_
      exact ⟨⟨row[j], t, _, ht, rfl⟩, s₃.heap, _, rfl, Kp.refl _⟩
    · have hs3 := pair_chr hrv (by simpa using hF3)
      refine join_list hPD3.isList hs3 (by rw [flat_len, flat_ones, List.length_map]; show _ + _ * 0 ≤ _; omega) fun t10 k10 => ?_
      rw [join_flat, flat_ones]
      refine PyProof.Rows.ne_str ?_
      refine wpAny_truthy_bool ?_
      rw [if_neg (by simp)]
      exact wpAny_execs_nil (h h9 _ (hk7.trans hk9))
end
end Mine
end

section
open PySem PySem.W PyProof.Rows PySem.Calls
set_option Elab.async false
namespace Mine
def pre (row : List Nat) (i : Nat) : Nat := cost (row.take i)
theorem cost_append (a b : List Nat) : cost (a ++ b) = cost a + cost b := by simp [cost]
theorem slice_cost {row : List Nat} {s i : Nat} (h : s ≤ i) : pre row s + cost ((row.drop s).take (i - s)) = pre row i := by
  unfold pre
  rw [← cost_append]
  congr 1
  have : row.take i = (row.take s) ++ ((row.drop s).take (i - s)) := by
    have := List.take_append_drop s (row.take i)
    rw [List.take_take, Nat.min_eq_left h, List.drop_take] at this
    exact this.symm
  exact this.symm
theorem pre_mono {row : List Nat} {s i : Nat} (h : s ≤ i) : pre row s ≤ pre row i := by have := slice_cost (row := row) h; omega
theorem pre_succ {row : List Nat} {i : Nat} (h : i < row.length) : pre row (i + 1) = pre row i + (piece row[i]).length := by
  unfold pre
  rw [List.take_succ_eq_append_getElem h, cost_snoc]

def kof (cap : Nat) (row : List Nat) (i : Nat) : Nat := (cut cap (row.take i)).length

/-- what the greedy cut of i octets is like -/
structure Greedy (cap : Nat) (row : List Nat) (i σ : Nat) : Prop where
  lt : σ < i
  shape : ∃ ws, cut cap (row.take i) = ws ++ [(row.drop σ).take (i - σ)]
  one : kof cap row σ + 1 = kof cap row i
  fits : pre row i ≤ pre row σ + cap
  same : ∀ s, σ < s → s ≤ i → kof cap row s = kof cap row i
  best : ∀ s, s ≤ i → pre row i ≤ pre row s + cap → kof cap row i ≤ kof cap row s + 1

theorem greedy {cap : Nat} {row : List Nat} (hcap : 3 ≤ cap) : ∀ i, i < row.length → ∃ σ, Greedy cap row (i + 1) σ
  | 0, h => by
    have e1 : cut cap (row.take 1) = [[row[0]]] := by rw [cut_take cap h]; rfl
    have e0 : cut cap (row.take 0) = [] := rfl
    refine ⟨0, by omega, ⟨[], ?_⟩, ?_, ?_, ?_, ?_⟩
    · rw [e1, List.drop_zero, List.take_succ_eq_append_getElem h]; rfl
    · unfold kof; rw [e1, e0]; rfl
    · rw [pre_succ h]
      have := (piece_pos row[0]).2
      omega
    · intro s h1 h2
      obtain rfl : s = 1 := by omega
      rfl
    · intro s _ _
      have : kof cap row 1 = 1 := by unfold kof; rw [e1]; rfl
      rw [this]; omega
  | i + 1, h => by
    obtain ⟨σ, g⟩ := greedy (row := row) hcap i (by omega)
    obtain ⟨ws, hws⟩ := g.shape
    have hc : cost ((row.drop σ).take (i + 1 - σ)) + pre row σ = pre row (i + 1) := by
      have := slice_cost (row := row) (s := σ) (i := i + 1) (Nat.le_of_lt g.lt); omega
    have hp := pre_succ (row := row) (i := i + 1) h
    have ht := cut_take cap h
    rw [hws] at ht
    by_cases hb : cap < cost ((row.drop σ).take (i + 1 - σ)) + (piece row[i + 1]).length
    · rw [cutStep_new hb] at ht
      have hk : kof cap row (i + 1 + 1) = kof cap row (i + 1) + 1 := by
        unfold kof; rw [ht, hws]; simp
      refine ⟨i + 1, by omega, ⟨ws ++ [(row.drop σ).take (i + 1 - σ)], ?_⟩, hk.symm, ?_, ?_, ?_⟩
      · rw [ht, show i + 1 + 1 - (i + 1) = 1 by omega, List.drop_eq_getElem_cons h]; rfl
      · have := (piece_pos row[i + 1]).2; omega
      · intro s h1 h2
        obtain rfl : s = i + 1 + 1 := by omega
        rfl
      · intro s h1 h2
        by_cases e : s = i + 1 + 1
        · subst e; omega
        · have hs : σ < s := by
            by_cases hle : σ < s
            · exact hle
            · have := pre_mono (row := row) (show s ≤ σ by omega)
              omega
          rw [g.same s hs (by omega), hk]; exact Nat.le_refl _
    · rw [cutStep_old hb] at ht
      have hk : kof cap row (i + 1 + 1) = kof cap row (i + 1) := by
        unfold kof; rw [ht, hws]; simp
      refine ⟨σ, by have := g.lt; omega, ⟨ws, ?_⟩, ?_, ?_, ?_, ?_⟩
      · have hl := g.lt
        rw [ht, show i + 1 + 1 - σ = (i + 1 - σ) + 1 by omega, List.take_succ_eq_append_getElem (by rw [List.length_drop]; omega), List.getElem_drop]
        congr 5
        omega
      · rw [hk]; exact g.one
      · omega
      · intro s h1 h2
        by_cases e : s = i + 1 + 1
        · rw [e]
        · rw [hk]; exact g.same s h1 (by omega)
      · intro s h1 h2
        by_cases e : s = i + 1 + 1
        · subst e; omega
        · rw [hk]
          exact g.best s (by omega) (by have := pre_mono (row := row) (show i + 1 ≤ i + 1 + 1 by omega); omega)

theorem mem_ways {row : List Nat} {cap : Nat} {g : List Nat} {stop : Nat} : ∀ k, k ≤ stop → ∀ x, x ∈ waysOf row cap g stop k ↔ ∃ s, s < k ∧ pre row stop ≤ pre row s + cap ∧ x = g.getD s 0 + 1
  | 0, _, x => by simp [waysOf]
  | k + 1, hk, x => by
    have hc := slice_cost (row := row) (s := k) (i := stop) (by omega)
    unfold waysOf
    by_cases hb : cap < cost ((row.drop k).take (stop - k))
    · rw [if_pos hb]
      simp only [List.not_mem_nil, false_iff, not_exists, not_and]
      intro s hs hp
      have := pre_mono (row := row) (show s ≤ k by omega)
      omega
    · rw [if_neg hb, List.mem_cons, mem_ways k (by omega)]
      constructor
      · rintro (rfl | ⟨s, h1, h2, h3⟩)
        · exact ⟨k, by omega, by omega, rfl⟩
        · exact ⟨s, by omega, h2, h3⟩
      · rintro ⟨s, h1, h2, h3⟩
        by_cases e : s = k
        · subst e; exact .inl h3
        · exact .inr ⟨s, by omega, h2, h3⟩

/-- the greedy cut takes as few words as any -/
theorem cut_fewest {row : List Nat} {cap : Nat} {g : List Nat} (hcap : 3 ≤ cap) (hd : Dp row cap g) (hl : g.length = row.length + 1) : ∀ i, i ≤ row.length → g.getD i 0 = kof cap row i := by
  intro i
  induction i using Nat.strongRecOn with
  | ind i ih =>
    intro hi
    cases i with
    | zero => rw [hd.1]; rfl
    | succ i =>
      obtain ⟨σ, G⟩ := greedy (row := row) hcap i (by omega)
      obtain ⟨hm, hmin⟩ := hd.2 (i + 1) (by omega) (by omega)
      obtain ⟨s, h1, h2, h3⟩ := (mem_ways (i + 1) (Nat.le_refl _) _).mp hm
      have hs := ih s (by omega) (by omega)
      have hσ := ih σ (by have := G.lt; omega) (by have := G.lt; omega)
      have hb := G.best s (by omega) h2
      have hm2 := hmin _ ((mem_ways (i + 1) (Nat.le_refl _) _).mpr ⟨σ, G.lt, G.fits, rfl⟩)
      have ho := G.one
      omega
theorem cut_is_fewest {row : List Nat} {cap : Nat} {g : List Nat} (hcap : 3 ≤ cap) (hd : Dp row cap g) (hl : g.length = row.length + 1) : g.getD row.length 0 = (cut cap row).length := by
  have := cut_fewest hcap hd hl row.length (Nat.le_refl _)
  unfold kof at this
  rw [List.take_length] at this
  exact this
end Mine
end

section
open PySem PySem.W PyProof.Rows PySem.Calls
set_option Elab.async false
set_option maxRecDepth 100000
set_option maxHeartbeats 2000000
namespace Mine
theorem capOf_3 (x : Int) : 3 ≤ capOf x := by unfold capOf; omega
theorem cut_good {cap : Nat} : ∀ {row : List Nat} , row.length ≤ 100 → (∀ c ∈ row, c < 256) → ∀ l ∈ cut cap row, l ≠ [] ∧ l.length ≤ 100 ∧ ∀ c ∈ l, c < 256 := by
  intro row hlen hrow l hl
  have hb := cut_bound cap row row.length (Nat.le_refl _)
  rw [List.take_length] at hb
  have hsub : ∀ c ∈ l, c ∈ row := fun c hc => by rw [← hb.2]; exact List.mem_flatten.mpr ⟨l, hl, hc⟩
  refine ⟨?_, ?_, fun c hc => hrow c (hsub c hc)⟩
  · have key : ∀ row : List Nat, ∀ l ∈ cut cap row, l ≠ [] := by
      intro row
      have : ∀ (r : List Nat) (ws : List (List Nat)), (∀ l ∈ ws, l ≠ []) → ∀ l ∈ r.foldl (cutStep cap) ws, l ≠ [] := by
        intro r
        induction r with
        | nil => intro ws h; exact h
        | cons c r ih =>
          intro ws h
          refine ih _ fun l hl => ?_
          rcases List.eq_nil_or_concat ws with rfl | ⟨ws', l', rfl⟩
          · rw [cutStep_nil] at hl; simp at hl; rw [hl]; simp
          · rw [List.concat_eq_append] at hl h
            by_cases hb : cap < cost l' + (piece c).length
            · rw [cutStep_new hb] at hl
              rcases List.mem_append.mp hl with hl | hl
              · exact h l hl
              · simp at hl; rw [hl]; simp
            · rw [cutStep_old hb] at hl
              rcases List.mem_append.mp hl with hl | hl
              · exact h l (List.mem_append_left _ hl)
              · simp at hl; rw [hl]; simp
      exact this row [] (fun _ h => nomatch h)
    exact key row l hl
  · have : l.length ≤ (cut cap row).flatten.length := by
      obtain ⟨a, b, e⟩ := List.append_of_mem hl
      rw [e]
      simp only [List.flatten_append, List.flatten_cons, List.length_append]
      omega
    rw [hb.2] at this
    omega

section
variable {prog : Program} {w : World} {A : Around} {E : Value → Shared → Prop} {s : Shared} {mg mb : Str → Option Value}
theorem law_end {env : Env} {h₀ : Heap} {n : Str} {cap : Nat} {r Wd : Addr} {row : List Nat} {m : Str → Option Value} {as : List Addr} {Q : Flow → Shared → Prop} (G0 : Gl mg mb h₀) (R : Rm A 19) (K : Ks env) (hn : n.length ≤ 10) (hcap : 3 ≤ cap) (hrow : ∀ c ∈ row, c < 256) (hlen : row.length ≤ 100)
    (H : LawIn h₀ s.heap env.locals n (cap + n.length + 7 : Nat) r row m) (hw : m (Str.ofString "words") = some (.ref Wd)) (hPW : PL s.heap Wd (as.map Value.ref).toArray) (hal : as.length = (cut cap row).length)
    (h : ∀ h' tk, Kp h₀ h' → Q (.ret (.bool true)) { s with heap := h', toks := tk }) :
    wpAny (model prog w) A (execs ((bodyAt 24).drop 12) env) Q E s := by
  have hkd := K.kind
  have hb := cut_bound cap row row.length (Nat.le_refl _)
  rw [List.take_length] at hb
  have G1 := G0.keeps H.kp
  obtain ⟨rv, hPr, hrv⟩ := H.rowv
  obtain ⟨tn, hcell⟩ := H.cell
  obtain ⟨tl, hlim⟩ := H.limit
  refine wpAny_execs_cons (wpAny_Return_some (wpAny_Compare1 ?_))
  refine Call_Name1 (nm_blt (K.g ▸ G1.g) G1.n_len (K.b ▸ G1.b) G1.b_len ?_ hkd K.glob)
  refine callWith_builtin1 (nm_loc H.ns hw ?_ hkd K.loc)
  refine len_list hPW.isList (by rw [List.size_toArray, List.length_map]; omega) ?_
  refine Call_Name3 (nm_glob (K.g ▸ G1.g) G1.v_fewest ?_ hkd K.glob)
  refine callWith_fn3 G1.f_fewest ?_
  refine nm_loc H.ns H.rowN ?_ hkd K.loc
  refine nm_cell K hcell ?_
  refine nm_loc H.ns hlim ⟨Kp.refl _, ?_⟩ hkd K.loc
  refine fewest_spec G1 (R.less (by omega)) hPr.isList hrv hrow (by omega) (by omega) hcap fun h2 tk2 t2 g hk2 hd hgl => ?_
  refine eq_int ?_
  have e : (((as.map Value.ref).toArray.size : Int) == ((g.getD row.length 0 : Nat) : Int)) = true := by
    rw [cut_is_fewest hcap hd hgl, List.size_toArray, List.length_map, hal]; simp
  rw [e]
  exact h h2 _ (H.kp.trans hk2)

theorem law_spec {f : Addr} {o : Obj} {pm cd doc : Value} {sc : Addr} {vs : List Value} {xs : List Int} (G : Gl mg mb s.heap) (R : Rm A 20) (ho : s.heap.get? f = some o)
    (hd : o.data = .func (docDef (nameAt 24) (paramsAt 24) (bodyAt 24) (scopeAt 24) pm cd doc)) (hcd : s.heap.CodeRec cd (nameAt 24)) (hl : s.heap.IsList sc vs.toArray) (hi : IntsAre vs xs) (hlen : xs.length ≤ 63)
    (h : ∀ h' tk, Kp s.heap h' → Q (.bool true) { s with heap := h', toks := tk }) :
    wpAny (model prog w) A (call (.ref f) [.ref sc]) Q E s := by
  have := R.dp
  refine wpAny_call (call_cells_ret (binds := [(Str.ofString "script", .ref sc)]) (by omega) ho hd G.lim hcd rfl (fun x hx => .inl ?_) (fun h₁ tk F X => ?_) (by rfl) (by rfl) (by rfl))
  · obtain rfl := List.mem_singleton.mp hx
    show (scopeAt 24).names.lookup (Str.ofString "script") = _
    decide +kernel
  have hcl : (cellsFrom (s.heap.objs.size + 1) (scopeAt 24).names []).lookup (Str.ofString "name") = some (s.heap.objs.size + 1) := by rfl
  have hcell := X.cell _ _ hcl
  have hn0 : h₁.Ns s.heap.objs.size (bindL (envOfC (nameAt 24) (scopeAt 24) s.heap.objs.size f cd).kindOf [(Str.ofString "script", .ref sc)] fun _ => none) := F.ns
  have hsc0 : (bindL (envOfC (nameAt 24) (scopeAt 24) s.heap.objs.size f cd).kindOf [(Str.ofString "script", .ref sc)] fun _ => none) (Str.ofString "script") = some (.ref sc) := by rfl
  have hk : Kp s.heap h₁ := F.keep
  have hcell : h₁.IsCell (s.heap.objs.size + 1) none := hcell
  generalize (bindL (envOfC (nameAt 24) (scopeAt 24) s.heap.objs.size f cd).kindOf [(Str.ofString "script", .ref sc)] fun _ => none) = m0 at hn0 hsc0
  clear F X hcl
  obtain ⟨env, he⟩ : ∃ env, env = envOfC (nameAt 24) (scopeAt 24) s.heap.objs.size f cd := ⟨_, rfl⟩
  rw [← he]
  have e1 : env.scope = scopeAt 24 := by rw [he]; rfl
  have e2 : env.globals = mainGlobals := by rw [he]; rfl
  have e3 : env.builtins = builtinsNs := by rw [he]; rfl
  have eL : env.locals = s.heap.objs.size := by rw [he]; rfl
  have e4 : env.cells.lookup (Str.ofString "name") = some (s.heap.objs.size + 1) := by rw [he]; rfl
  obtain ⟨L, hL⟩ : ∃ L, L = s.heap.objs.size := ⟨_, rfl⟩
  rw [← hL] at hn0 hcell e4 eL
  have hLL : s.heap.objs.size ≤ L := Nat.le_of_eq hL.symm
  clear he
  subst eL
  have K : Ks env := ⟨e1, e2, e3, e4⟩
  have hxl : (xs.map octet).length ≤ 100 := by rw [List.length_map]; omega
  have hrow : ∀ c ∈ xs.map octet, c < 256 := fun c hc => by obtain ⟨x, _, rfl⟩ := List.mem_map.mp hc; exact octet_lt x
  have hnl := nameOf_len (firstOf xs)
  have R' : Rm (A.deeper env) 19 := Rm.deeper R
  refine law_pro (s := { s with heap := h₁, toks := tk }) G R' K hk hLL hn0 hcell hsc0 hl hi hlen fun h2 tk2 r Wd Sz m2 H2 hw2 hs2 hPW2 hPS2 W3 S3 rL Wr Sr WS => ?_
  refine law_loop (s := { s with heap := h2, toks := tk2 }) G R' K hLL hnl hrow hxl H2 hw2 hs2 hPW2 hPS2 W3 S3 rL Wr Sr WS fun h3 tk3 m3 as I H3 hw3 hs3 C3 => ?_
  have hws := cut_good (cap := capOf (firstOf xs)) hxl hrow
  have hb := cut_bound (capOf (firstOf xs)) (xs.map octet) (xs.map octet).length (Nat.le_refl _)
  rw [List.take_length] at hb
  refine law_written (s := { s with heap := h3, toks := tk3 }) G R' K hLL rL W3.2.1 S3.2.1 hnl hws (by omega) H3 hw3 hs3 C3 fun h4 tk4 m4 D ys H4 hw4 hs4 hwr4 hDL hPW4 ⟨sv, hPS4, hsv4⟩ hPD4 hys4 => ?_
  refine law_lens (Wd := Wd) (s := { s with heap := h4, toks := tk4 }) G R' K hnl hws (by omega) H4 hs4 hwr4 hPS4 hsv4 hPD4 hys4 fun h5 tk5 hk5 => ?_
  refine law_inside (s := { s with heap := h5, toks := tk5 }) G R' K hLL rL W3.2.1 hnl hws (by omega) (H4.kept hk5) hw4 hwr4 (hPW4.kept hk5) (hPD4.kept hk5) hys4 fun h6 tk6 m6 D' ys' H6 hw6 hin6 hPW6 hPD6 hys6 => ?_
  refine law_joins (s := { s with heap := h6, toks := tk6 }) G R' K hws (by omega) hb.2 hrow hxl H6 hin6 hPD6 hys6 fun h7 tk7 hk7 => ?_
  refine law_end (s := { s with heap := h7, toks := tk7 }) G R' K hnl (capOf_3 _) hrow hxl (H6.kept hk7) hw6 (hPW6.kept hk7) C3.len fun h8 tk8 hk8 => ?_
  exact h h8 tk8 hk8
end
end Mine
end

section
open PySem PySem.W PyProof.Rows PySem.Calls
set_option Elab.async false
set_option maxRecDepth 100000
set_option maxHeartbeats 2000000
namespace Mine
abbrev rw0 := PySem.Challenge.rw_io0057_01
theorem row_holds (said : rw0.row.wellSaid = true) : rw0.row.Holds := by
  refine holds_open (q := qv) (loose := looseL) (Xt := fun _ => true) (XP := fun _ _ => True) (Yf := seenOf) (Ya := fun _ => seenGood) (YP := GlP) (N := 20000) left_all (fun w s e => glp_of w s e) (fun w h h' x k => glp_keeps w h h' x k)
    (fun _ _ => trivial) (fun _ _ _ _ _ => trivial) (by rfl) (by rfl) (by rfl) (fun s _ => recFacts_nil (by rfl)) (by rfl) said (by decide +kernel) ⟨rfl, rfl, rfl, rfl, rfl, by decide +kernel⟩ ?hw ?hc
  case hw => w_witness2
  case hc =>
    intro w s₀ s₁ mg mb G Y fa o pm cd doc dV kV ho hd hcd hD hmg hg args vals as hpre hlay hrd hwl hlo
    obtain ⟨mg', mb', GL⟩ := Y
    have he := Dflts.none hD rfl
    subst he
    have he := Dflts.noKw hD
    subst he
    clear G hD hmg
    have hd' : o.data = .func (docDef (nameAt 24) (paramsAt 24) (bodyAt 24) (scopeAt 24) pm cd doc) := hd
    have hcd' : s₁.heap.CodeRec cd (nameAt 24) := hcd
    clear hd hcd
    wrow_args hpre hlay hrd hwl hlo
    rename_i xs _ _ _ _ _ _ _ sc vs _ hL _ _ _ hI _ hlen _
    refine law_spec GL ⟨rfl, by decide, by decide⟩ ho hd' hcd' hL hI (by omega) fun h' tk hk => ?_
    refine GoodW.toG ⟨.inl ⟨.bool true, ofPy (.bool true), [], rfl, ?_, ?_, ?_, ?_⟩, hk, rfl, hg⟩
    · exact raisesW_false (by wrow_none_raised)
    · exact readsW_of_reads (.bool true)
    · exact postW_of (by wrow_shape) (by wtm_val) (by w_fin)
    · exact unshared_nil
theorem law_holds : rw0.Holds := by
  w_on
  o_law
  exact row_holds (by assumption)
end Mine
end

theorem PySem.Challenge.cw_io0057_01_holds : PySem.Challenge.rw_io0057_01.Holds := by
  exact Mine.law_holds
