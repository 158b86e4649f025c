import PyProof.Rows.All
import Wide.All
import OpenK.AllK
import Wide.FinOn
import PySem.Challenge.RW_pg0258_01
open PySem PySem.W PyProof.Rows
set_option Elab.async false
namespace Mine
section
open PySem PySem.W PyProof.Rows
set_option maxRecDepth 100000
/-! ### the head, in one look -/
abbrev pw : Program := PySem.Challenge.pw_pg0258_01
def qv : Program := { pw with main := { pw.main with body := [pw.main.body.getD 4 default, pw.main.body.getD 22 default] } }
abbrev looseN : List Str := [Str.ofString "_wall", Str.ofString "NannyNag", Str.ofString "Whitespace", Str.ofString "_raise_serialization_error", Str.ofString "_escape_cdata", Str.ofString "_escape_attrib", Str.ofString "_escape_attrib_html", Str.ofString "_escape_cdata_c14n", Str.ofString "_escape_attrib_c14n",
  Str.ofString "_law_write", Str.ofString "_law_kept", Str.ofString "_law_read", Str.ofString "_law_carried", Str.ofString "_law_read_lines", Str.ofString "_law_outline", Str.ofString "_law_column", Str.ofString "_law_apart", Str.ofString "_law_due"]
theorem dk_some : (defOf qv (Str.ofString "law")).isSome = true := by kernel_rfl
def dk : DefRec × List (Str × PySem.Expr) := (defOf qv (Str.ofString "law")).get dk_some
theorem h_said : OpenLaw.wellSaid PySem.Challenge.rw_pg0258_01 = true := by kernel_rfl
theorem h_ok : (chainsOk qv && opensWell (OpenLaw.row PySem.Challenge.rw_pg0258_01).prog && (frees (OpenRow.toRowW (OpenLaw.row PySem.Challenge.rw_pg0258_01)) && (OpenLaw.row PySem.Challenge.rw_pg0258_01).within.isEmpty)) = true := by kernel_rfl
theorem h_def : defOf qv (OpenLaw.row PySem.Challenge.rw_pg0258_01).name = some (dk.1, dk.2) := by kernel_rfl
theorem h_the : (OpenLaw.row PySem.Challenge.rw_pg0258_01).prog.theDef (OpenLaw.row PySem.Challenge.rw_pg0258_01).name = some (dk.1.params, dk.1.body, dk.1.scope) := by kernel_rfl
theorem h_kw : kwWritten? dk.1.params.kwonlyargs dk.1.params.kw_defaults = some dk.2 := by kernel_rfl
theorem h_bare : (OpenLaw.row PySem.Challenge.rw_pg0258_01).prog.bare := ⟨rfl, rfl, rfl, rfl, rfl, by kernel_rfl⟩
abbrev rr : OpenRow := OpenLaw.row PySem.Challenge.rw_pg0258_01
abbrev XtQ : Shared → Bool := fun s => xlAt qv [] s && recOk (RowW.records (OpenRow.toRowW rr)) s
theorem p1 : ∀ (s : Shared), XtQ s = true → XL qv [] (s.heap.nsMap mainGlobals) s.heap := fun s e => xl_of s (Bool.and_eq_true_iff.mp e).1
theorem p2 : ∀ s, XtQ s = true → RecFacts rr.records s.heap := fun s e => recFacts_of (Bool.and_eq_true_iff.mp e).2
theorem p3 : (!rr.writes || rr.records.isEmpty) = true := by rfl
theorem h_open (H : Hook) (h : LeftO rr.prog qv looseN XtQ H.obs H.val 2898) (said : rr.wellSaid = true) (hw : rr.toRowW.promised)
   (call : WalkO qv looseN (XL qv []) H.says rr.toRowW dk.1 dk.2 fun f vs => PySem.call f vs) : rr.Holds :=
  @holds_open rr qv looseN XtQ (XL qv []) H.α H.obs H.val H.says dk.1 dk.2 2898 h H.of H.keeps p1 XL.keeps h_def h_the h_kw p2 p3 said h_ok h_bare hw call
local macro_rules | `(tactic| o_head $H) => `(tactic| (exfalso; assumption))
set_option maxHeartbeats 8000000 in
theorem mk (no : False) : rr.Holds := by k_head
def asK : List Addr := [2, 3, 15, 17, 18, 20, 21, 22, 29, 31, 32, 34, 35, 36, 38, 39, 41, 42, 43, 45, 46, 48, 49, 50, 52, 53, 55, 56, 57, 58, 59, 60, 73, 75, 76, 78, 79, 80, 82, 83, 85, 86, 87, 89, 90, 92, 93, 94, 96, 97, 99, 100, 101, 103, 104, 106, 107, 108, 110, 111, 113, 114, 115, 117, 118, 120, 121, 122, 123, 124, 125, 126, 129, 131, 132, 134, 135, 136, 138, 139, 141, 142, 143, 145, 146, 148, 149, 150, 152, 153, 155, 156, 157, 159, 160, 162, 163, 164, 166, 167, 169, 170, 171, 173, 174, 176, 177, 178, 180, 181, 183, 184, 185, 187, 188, 190, 191, 192, 194, 195, 197, 198, 199, 201, 202, 204, 205, 206, 208, 209, 211, 212, 213, 215, 216, 218, 219, 220, 222, 223, 225, 226, 227, 230, 231, 232, 235, 236, 237, 240, 241]
theorem e_as (P : Params) : asK = (mk.heap_1 P).map (·.1) := by kernel_rfl
noncomputable def hkK : Hook := kHook mk.heap_1 asK e_as
abbrev LeftAt (w : World) : Prop := (openEnds treeTable rr.prog w 2898).map (fun s => (openSeen qv looseN (importedModules rr.prog.main.body) XtQ true s, asK.map s.heap.get?)) = some (openGood qv looseN, (mk.heap_1 w.params).map fun p => some p.2)
theorem left_f (w : World) : LeftAt (w.withFollow "special-get-raises" false) := by kernel_rfl
theorem left_t (w : World) : LeftAt (w.withFollow "special-get-raises" true) := by kernel_rfl
theorem left_all : LeftO rr.prog qv looseN XtQ hkK.obs hkK.val 2898 := fun w => byRow2 (P := LeftAt) "special-get-raises" left_f left_t w
theorem h_prom : rr.toRowW.promised := by w_witness2
theorem h_nm : dk.1.name = Str.ofString "law" := by kernel_rfl
theorem hd (call : WalkO qv looseN (XL qv []) (kHook mk.heap_1 asK e_as).says rr.toRowW dk.1 dk.2 fun f vs => PySem.call f vs) : PySem.Challenge.rw_pg0258_01.Holds :=
  holds_law h_said fun said => h_open hkK left_all said h_prom call
end
section
open PySem PySem.W PySem.Calls PyProof.Rows
set_option maxRecDepth 100000

noncomputable abbrev KF (P : Params) : Frag := mk.heap_1 P

noncomputable def fdOf (P : Params) (a : Addr) : FuncData := match (KF P).lookup a with
  | some ⟨_, _, .func fd, _⟩ => fd
  | _ => default
def bodyOf (fd : FuncData) : List Stmt := match fd.body with
  | .stmts b => b
  | _ => []

/-- what the run stands on -/
structure Gnd (w : World) (h₀ : Heap) : Prop where
  kin : (KF w.params).In h₀
  lim : h₀.NoLimit
  dig : ∃ mc, h₀.Ns cStatics mc ∧ mc "sys.int_max_str_digits" = none
  top : ∃ mg mb, h₀.Ns mainGlobals mg ∧ h₀.Ns builtinsNs mb ∧ ∀ x : Str, x ≠ "__name__" → mb x = bootBuiltins x

/-- locals by their places -/
def locMap : List Str → List (Option Value) → Str → Option Value
  | x :: vs, v :: l, y => if y = x then v else locMap vs l y
  | _, _, _ => none
def slotOf : List Str → Str → Option Nat
  | [], _ => none
  | x :: vs, y => if y = x then some 0 else (slotOf vs y).map (· + 1)

theorem locMap_get : ∀ {vs : List Str} {l : List (Option Value)} {x : Str} {i : Nat} {v : Option Value}, slotOf vs x = some i → l[i]? = some v → locMap vs l x = v
  | [], _, _, _, _, h, _ => by cases h
  | y :: vs, [], x, i, v, _, hl => by simp at hl
  | y :: vs, u :: l, x, i, v, h, hl => by
    unfold slotOf at h
    unfold locMap
    by_cases e : x = y
    · rw [if_pos e] at h ⊢
      cases h
      simpa using hl
    · rw [if_neg e] at h ⊢
      obtain ⟨j, hj, rfl⟩ := Option.map_eq_some_iff.mp h
      exact locMap_get hj (by simpa using hl)

theorem locMap_set : ∀ {vs : List Str} {l : List (Option Value)} {x : Str} {i : Nat} {v : Value}, slotOf vs x = some i → i < l.length →
    (fun y => if y = x then some v else locMap vs l y) = locMap vs (l.set i (some v))
  | [], _, _, _, _, h, _ => by cases h
  | y :: vs, [], x, i, v, _, hl => by simp at hl
  | y :: vs, u :: l, x, i, v, h, hl => by
    unfold slotOf at h
    by_cases e : x = y
    · rw [if_pos e] at h
      cases h
      subst e
      funext z
      simp only [List.set_cons_zero, locMap]
      split <;> rfl
    · rw [if_neg e] at h
      obtain ⟨j, hj, rfl⟩ := Option.map_eq_some_iff.mp h
      have ih := locMap_set (l := l) (v := v) hj (by simpa using hl)
      funext z
      simp only [List.set_cons_succ, locMap]
      rw [← congrFun ih z]
      by_cases h1 : z = x
      · subst h1; simp [e]
      · simp [h1]

/-- a local's place in an environment -/
structure Slot (env : Env) (L : Addr) (vs : List Str) (x : Str) (i : Nat) : Prop where
  fn : env.scope.kind = .function
  loc : env.locals = L
  kind : env.kindOf x = some .local
  ix : slotOf vs x = some i
  nd : (x == ("__debug__" : Str)) = false

/-- what stands beside the heap: the system, the generators -/
abbrev OsG := OsState × (Array GenState × Drawn)
structure St (h₀ : Heap) (os : OsG) (L : Addr) (vs : List Str) (l : List (Option Value)) (led : List (Addr × Obj)) (s : Shared) : Prop where
  F : Fr h₀ L s.heap (locMap vs l)
  N : News h₀ L s.heap led
  nd : (led.map (·.1)).Nodup
  gens : AllBare s.gens
  os : (s.os, s.gens, s.drawn) = os
  tok : 0 < s.toks

def Ret (h₀ : Heap) (os : OsG) (L : Addr) (vs : List Str) (l : List (Option Value)) (oL : Obj) (Q : Value → Shared → Prop) (fl : Flow) (s₂ : Shared) : Prop :=
  ∃ L' vs' l' led', St h₀ os L' vs' l' ((L, oL) :: led') s₂ ∧ (St h₀ os L vs l led' s₂ → Q (match fl with | .ret v => v | _ => .none) s₂)

structure AOk (A : Around) (d u : Nat) : Prop where
  hd : A.handled = none
  dp : A.depth + d < recursionLimit
  un : A.units + u < cLine

theorem AOk.le {A : Around} {d u d' u' : Nat} (h : AOk A d u) (hd : d' ≤ d) (hu : u' ≤ u) : AOk A d' u' := ⟨h.hd, by have := h.dp; omega, by have := h.un; omega⟩
theorem AOk.deeper {A : Around} {d u : Nat} {env : Env} (h : AOk A (d + 1) (u + 3)) : AOk (A.deeper env) d u :=
  ⟨h.hd, by have := h.dp; show A.depth + 1 + d < _; omega, by have := h.un; show A.units + 3 + u < _; omega⟩
theorem AOk.in1 {A : Around} {d u : Nat} (h : AOk A d (u + 1)) : AOk A.in1 d u :=
  ⟨h.hd, h.dp, by have := h.un; show A.units + 1 + u < _; omega⟩

section
variable {M : Model} {w : World} {A : Around} {E : Value → Shared → Prop} {s : Shared} {h₀ : Heap} {os : OsG} {L : Addr} {vs : List Str} {l : List (Option Value)} {led : List (Addr × Obj)} {env : Env}

theorem St.heapTok {h' : Heap} {tk : Nat} (S : St h₀ os L vs l led s) {l' : List (Option Value)} (F : Fr h₀ L h' (locMap vs l')) (N : News h₀ L h' led) (ht : 0 < tk) : St h₀ os L vs l' led { s with heap := h', toks := tk } :=
  ⟨F, N, S.nd, S.gens, S.os, ht⟩
theorem St.toks (S : St h₀ os L vs l led s) {tk : Nat} (ht : 0 < tk) : St h₀ os L vs l led { s with toks := tk } := ⟨S.F, S.N, S.nd, S.gens, S.os, ht⟩

theorem nmL {x : Str} {pos : Pos} {i : Nat} {v : Value} {Q : Value → Shared → Prop} (S : St h₀ os L vs l led s) (V : Slot env L vs x i) (hv : l[i]? = some (some v)) (h : Q v s) :
    wpAny M A (eval (.Name x pos) env) Q E s := by
  obtain ⟨fn, rfl, kind, ix, nd⟩ := V
  exact wpAny_Name (wpAny_loadName_local fn kind S.F.ns (locMap_get ix hv) h) nd

theorem stL {x : Str} {i : Nat} {v : Value} {Q : Unit → Shared → Prop} (S : St h₀ os L vs l led s) (V : Slot env L vs x i) (hi : i < l.length)
    (h : ∀ s', St h₀ os L vs (l.set i (some v)) led s' → Q () s') : wpAny M A (storeName env x v) Q E s := by
  obtain ⟨fn, rfl, kind, ix, nd⟩ := V
  refine wpAny_storeName_local kind S.F.ns (fun h' hn hs => ?_) (by rw [fn]; rfl)
  rw [locMap_set ix hi] at hn
  exact h _ (S.heapTok (S.F.set hn hs) (S.N.set hs) (Nat.succ_pos _))

theorem cInt {i : Int} {k : Nat} {pos : Pos} {Q : Value → Shared → Prop} (S : St h₀ os L vs l led s) (h : ∀ t s', St h₀ os L vs l led s' → Q (.int i t) s') :
    wpAny M A (eval (.Constant (.int i) k pos) env) Q E s := wpAny_Constant_int (h _ _ (S.toks (Nat.succ_pos _)))
theorem cStr {x : Str} {k : Nat} {pos : Pos} {Q : Value → Shared → Prop} (S : St h₀ os L vs l led s) (h : ∀ t s', St h₀ os L vs l led s' → Q (.str x t) s') :
    wpAny M A (eval (.Constant (.str x) k pos) env) Q E s := Constant_str (h _ _ (S.toks (Nat.succ_pos _)))

/-! ### names of the top -/
theorem nmG {x : Str} {pos : Pos} {v : Value} {Q : Value → Shared → Prop} (G : Gnd w h₀) (S : St h₀ os L vs l led s) (fn : env.scope.kind = .function) (gl : env.globals = mainGlobals)
    (e : nsIn (KF w.params) mainGlobals x = some (some v)) (hx : env.kindOf x = some .globalImplicit) (hd : (x == ("__debug__" : Str)) = false) (h : Q v s) :
    wpAny M A (eval (.Name x pos) env) Q E s := by
  obtain ⟨mg, mb, hg, hb, hbb⟩ := G.top
  exact Name_function_global fn hx (loadGlobal_global (env := env) (by rw [gl]; exact hg.keeps S.F.keep) (mg_of G.kin hg e) h) hd

theorem mg_none {K : Frag} {h : Heap} {mg : Str → Option Value} {x : Str} (X : K.In h) (g : h.Ns mainGlobals mg) (e : nsIn K mainGlobals x = some none) : mg x = none := by
  unfold nsIn at e
  split at e
  · rename_i c d es n sl ho
    obtain ⟨o, es', ep, ho', hd, hk, hf⟩ := g
    have := X _ _ ho
    rw [this] at ho'
    cases ho'
    cases hd
    rw [← hf x]
    split at e
    · cases e
    · rename_i hn
      show (es.find? fun e => e.key.isStr x).map (·.val) = none
      rw [← Array.find?_toList, hn]
      rfl
  · cases e

theorem nmB {x : Str} {pos : Pos} {v : Value} {Q : Value → Shared → Prop} (G : Gnd w h₀) (S : St h₀ os L vs l led s) (fn : env.scope.kind = .function) (gl : env.globals = mainGlobals) (bl : env.builtins = builtinsNs)
    (e : nsIn (KF w.params) mainGlobals x = some none) (hb : bootBuiltins x = some v) (hn : x ≠ "__name__") (hx : env.kindOf x = some .globalImplicit) (hd : (x == ("__debug__" : Str)) = false) (h : Q v s) :
    wpAny M A (eval (.Name x pos) env) Q E s := by
  obtain ⟨mg, mb, hg, hb', hbb⟩ := G.top
  exact Name_function_global fn hx (loadGlobal_builtin (env := env) (by rw [gl]; exact hg.keeps S.F.keep) (mg_none G.kin hg e) (by rw [bl]; exact hb'.keeps S.F.keep) ((hbb x hn).trans hb) h) hd
end

/-! ### calls of the text's defs -/
section
variable {w : World} {A : Around} {E : Value → Shared → Prop} {s : Shared} {h₀ : Heap} {os : OsG} {L : Addr} {vs : List Str} {l : List (Option Value)} {led : List (Addr × Obj)}

theorem lookup_zip : ∀ (ps : List Str) (as : List Value) (rest : List Str), ps.length = as.length → ∀ y, (ps.zip as).lookup y = locMap (ps ++ rest) (as.map some ++ List.replicate rest.length none) y
  | [], [], rest, _, y => by
    show none = _
    induction rest with
    | nil => rfl
    | cons x r ih =>
      simp only [List.nil_append, List.map_nil, List.length_cons, List.replicate_succ, locMap] at ih ⊢
      split
      · rfl
      · exact ih
  | p :: ps, a :: as, rest, h, y => by
    simp only [List.zip_cons_cons, List.lookup_cons, List.cons_append, List.map_cons, locMap]
    by_cases e : y = p
    · subst e; simp
    · have : (y == p) = false := beq_eq_false_iff_ne.mpr e
      rw [this, if_neg e]
      exact lookup_zip ps as rest (by simpa using h) y
  | [], _ :: _, _, h, _ => by cases h
  | _ :: _, [], _, h, _ => by cases h

theorem lookup_reverse {α : Type} : ∀ (l : List (Str × α)), (l.map (·.1)).Nodup → ∀ y, l.reverse.lookup y = l.lookup y
  | [], _, _ => rfl
  | (x, v) :: r, h, y => by
    rw [List.map_cons, List.nodup_cons] at h
    rw [List.reverse_cons, List.lookup_append, lookup_reverse r h.2, List.lookup_cons, List.lookup_cons]
    by_cases e : y = x
    · subst e
      have : r.lookup y = none := by
        rw [List.lookup_eq_none_iff]
        intro p hp
        have : p.1 ≠ y := fun q => h.1 (q ▸ List.mem_map.mpr ⟨p, hp, rfl⟩)
        simpa using fun q : y = p.1 => this q.symm
      simp [this]
    · have : (y == x) = false := beq_eq_false_iff_ne.mpr e
      simp [this]

theorem map_zip_fst : ∀ (ps : List Str) (as : List Value), ps.length = as.length → (ps.zip as).map (·.1) = ps
  | [], [], _ => rfl
  | p :: ps, a :: as, h => by simp only [List.zip_cons_cons, List.map_cons]; rw [map_zip_fst ps as (by simpa using h)]
  | [], _ :: _, h => by cases h
  | _ :: _, [], h => by cases h

/-- the frame that waits, as a cell -/
theorem St.under (S : St h₀ os L vs l led s) : ∃ oL, s.heap.get? L = some oL ∧ oL.isFreed = false ∧ ∀ (h' : Heap), h'.get? L = some oL → h'.Ns L (locMap vs l) := by
  obtain ⟨oL, es, ep, hL, hd, hk, hf⟩ := S.F.ns
  exact ⟨oL, hL, (Heap.get?_some_iff.mp hL).2, fun h' e => ⟨oL, es, ep, e, hd, hk, hf⟩⟩

theorem none_of_ge {h : Heap} {a : Addr} (ha : h.objs.size ≤ a) : h.get? a = none := by
  cases q : h.get? a with
  | none => rfl
  | some o => exact absurd (Heap.lt_size q) (Nat.not_lt.mpr ha)

structure FnOk (P : Params) (f : Addr) (ps : List Str) (args : List Value) : Prop where
  look : (KF P).lookup f = some (((KF P).lookup f).getD default)
  dat : (((KF P).lookup f).getD default).data = .func (fdOf P f)
  body : (fdOf P f).body = .stmts (bodyOf (fdOf P f))
  code : codeIn (KF P) (fdOf P f).code (fdOf P f).qualname = true
  bind : bindArgs (fdOf P f) ⟨args, []⟩ = pure (ps.zip args)
  len : ps.length = args.length
  nd : ps.Nodup
  loc : (ps.all fun x => (fdOf P f).scope.names.lookup x == some .local) = true
  cell : ((fdOf P f).scope.names.all fun x => x.2 != .cell) = true
  co : (fdOf P f).scope.isCoroutine = false
  gen : (fdOf P f).scope.isGenerator = false
  kind : (fdOf P f).scope.kind = .function

theorem call_fn {f : Addr} {args : List Value} {Q : Value → Shared → Prop} {ps : List Str} (K : FnOk w.params f ps args) (rest : List Str)
    (G : Gnd w h₀) (S : St h₀ os L vs l led s) (hA : A.depth < recursionLimit)
    (h : ∀ L' oL s₁, St h₀ os L' (ps ++ rest) (args.map some ++ List.replicate rest.length none) ((L, oL) :: led) s₁ →
      wpAny (model pw w) (A.deeper (callEnv (fdOf w.params f) L' f)) (execs (bodyOf (fdOf w.params f)) (callEnv (fdOf w.params f) L' f))
        (Ret h₀ os L vs l oL Q) (fun _ _ => False) s₁) :
    wpAny (model pw w) A (call (.ref f) args) Q E s := by
  obtain ⟨hf, hd, hb, hcd, hbind, hlen, hnd, hloc', hcell', hco, hgen, hk⟩ := K
  have hloc : ∀ x ∈ ps, (fdOf w.params f).scope.names.lookup x = some .local := fun x hx => eq_of_beq (List.all_eq_true.mp hloc' x hx)
  have hcell : ∀ x ∈ (fdOf w.params f).scope.names, x.2 ≠ .cell := fun x hx e => by have := List.all_eq_true.mp hcell' x hx; rw [e] at this; exact absurd this (by decide)
  obtain ⟨oL, hL, hLf, hLn⟩ := S.under
  refine wpAny_call (codeAny_call_def (fd := fdOf w.params f) (body := bodyOf (fdOf w.params f)) (binds := ps.zip args) hA (S.F.keep _ _ (G.kin _ _ hf)) hd (G.lim.keeps S.F.keep) (codeRec_of (G.kin.keeps S.F.keep) hcd) hb (.of_eq hbind) hcell
    (fun x hx => hloc x.1 (List.of_mem_zip hx).1) (fun h₁ hns hk₁ => ?_) hco hgen hk)
  have hmap : (fun x => (ps.zip args).reverse.lookup x) = locMap (ps ++ rest) (args.map some ++ List.replicate rest.length none) := by
    funext y
    rw [lookup_reverse _ (by rw [map_zip_fst ps args hlen]; exact hnd), lookup_zip ps args rest hlen]
  rw [hmap] at hns
  have hLlt : L < s.heap.objs.size := Heap.lt_size hL
  have hle : h₀.objs.size ≤ s.heap.objs.size := Nat.le_trans S.F.above (Nat.le_of_lt hLlt)
  refine wpAny_mono (h s.heap.objs.size oL _ ⟨⟨hns, fun b o e => hk₁ b o (S.F.keep b o e), hle⟩, ?_, ?_, S.gens, S.os, Nat.lt_of_lt_of_le S.tok (Nat.le_add_right _ _)⟩) (fun fl s₂ h₂ => ?_) fun _ _ x => x.elim
  · intro p hp
    rcases List.mem_cons.mp hp with rfl | hp
    · exact ⟨hk₁ _ _ hL, Nat.ne_of_lt hLlt, none_of_ge S.F.above⟩
    · exact ⟨hk₁ _ _ (S.N p hp).1, Nat.ne_of_lt (Heap.lt_size (S.N p hp).1), (S.N p hp).2.2⟩
  · rw [List.map_cons, List.nodup_cons]
    refine ⟨fun hm => ?_, S.nd⟩
    obtain ⟨p, hp, e⟩ := List.mem_map.mp hm
    exact (S.N p hp).2.1 e
  · obtain ⟨L₂, vs', l', led', S₂, hQ⟩ := h₂
    have hL₂ : s₂.heap.get? L = some oL := (S₂.N (L, oL) (.head _)).1
    have hnd := S₂.nd
    rw [List.map_cons, List.nodup_cons] at hnd
    have St₂ : St h₀ os L vs l led' s₂ := ⟨⟨hLn _ hL₂, S₂.F.keep, S.F.above⟩, fun p hp => ⟨(S₂.N p (.tail _ hp)).1, fun e => hnd.1 (e ▸ List.mem_map.mpr ⟨p, hp, rfl⟩), (S₂.N p (.tail _ hp)).2.2⟩, hnd.2, S₂.gens, S₂.os, S₂.tok⟩
    cases fl <;> exact hQ St₂
theorem iteI {c : Prop} [Decidable c] {p q : Prop} (h1 : c → p) (h2 : ¬ c → q) : if c then p else q := by split <;> simp_all
end
end
section
open PySem PySem.W PySem.Calls PyProof.Rows
set_option maxRecDepth 100000

/-! ### sequencing -/
def Then (M : Model) (A : Around) (rest : List Stmt) (env : Env) (Q : Flow → Shared → Prop) (E : Value → Shared → Prop) (f : Flow) (s : Shared) : Prop :=
  match f with
  | .next => wpAny M A (execs rest env) Q E s
  | f => Q f s

def ForR (M : Model) (A : Around) (env : Env) (Q : Flow → Shared → Prop) (E : Value → Shared → Prop) (r : Result) (s' : Shared) : Prop :=
  match r with
  | .ok f => Q f s'
  | .error e => cameBackBy M A env E e s'

def ArgsW (M : Model) (A : Around) (env : Env) (E : Value → Shared → Prop) : List Expr → (List Value → Shared → Prop) → Shared → Prop
  | [], Q, s => Q [] s
  | e :: r, Q, s => wpAny M A (eval e env) (fun v s₁ => ArgsW M A env E r (fun vs s₂ => Q (v :: vs) s₂) s₁) E s

def noStar : List Expr → Bool
  | [] => true
  | .Starred .. :: _ => false
  | _ :: r => noStar r

theorem starEach_plain (env : Env) : ∀ (es : List Expr), noStar es = true → starEach es env = es.map fun e => (false, eval e env)
  | [], _ => rfl
  | e :: r, h => by
    cases e <;> first | (cases h; done) | (simp only [noStar] at h; simp only [starEach, List.map_cons]; rw [starEach_plain env r h])

section
variable {M : Model} {w : World} {A : Around} {E : Value → Shared → Prop} {s : Shared} {h₀ : Heap} {os : OsG} {L : Addr} {vs : List Str} {l : List (Option Value)} {led : List (Addr × Obj)} {env : Env}

theorem backTo_plain (pos : Pos) (es : List Expr) (h : noStar es = true) : backTo pos (starEach es env) = es.map fun e => (false, eval e env) := by
  rw [starEach_plain env es h]
  unfold backTo
  rw [List.map_map]
  rfl

theorem spliced_args : ∀ (es : List Expr) (Q : List Value → Shared → Prop) (s : Shared), ArgsW M A env E es Q s → wpAny M A (spliced (es.map fun e => (false, eval e env))) Q E s
  | [], Q, s, h => wpAny_pure h
  | e :: r, Q, s, h => by
    show wpAny M A (do
      let v ← eval e env
      let here ← pure [v]
      return here ++ (← holding here (spliced (r.map fun e => (false, eval e env))))) Q E s
    refine wpAny_bind (wpAny_mono h (fun v s₁ h₁ => wpAny_bind (wpAny_pure (wpAny_bind (wpAny_holding (wpAny_mono (spliced_args r _ s₁ h₁) (fun vs s₂ h₂ => wpAny_pure h₂) fun _ _ x => x))))) fun _ _ x => x)

theorem spliced_es {es : List Expr} {pos : Pos} {Q : List Value → Shared → Prop} (hs : noStar es = true) (h : ArgsW M A env E es Q s) : wpAny M A (spliced (backTo pos (starEach es env))) Q E s := by
  rw [backTo_plain pos es hs]; exact spliced_args es Q s h

theorem evalArgs_es {f : Value} {es : List Expr} {pos : Pos} {Q : Args → Shared → Prop} (hs : noStar es = true) (h : ArgsW M A env E es (fun vs s' => Q ⟨vs, []⟩ s') s) : wpAny M A (evalArgs f true (backTo pos (starEach es env)) []) Q E s := by
  rw [backTo_plain pos es hs]
  cases es with
  | nil => exact evalArgs_nil3 h
  | cons e r => exact evalArgs_plain (spliced_args (e :: r) _ s h)

theorem any_plain (pos : Pos) (es : List Expr) (h : noStar es = true) : (backTo pos (starEach es env)).any (·.1) = false := by
  rw [backTo_plain pos es h]
  induction es with
  | nil => rfl
  | cons e r ih => simp

theorem seqI {st : Stmt} {rest : List Stmt} {Q : Flow → Shared → Prop} (h : wpAny M A (exec st env) (Then M A rest env Q E) E s) : wpAny M A (execs (st :: rest) env) Q E s := wpAny_execs_cons h
theorem thenN {rest : List Stmt} {Q : Flow → Shared → Prop} (h : wpAny M A (execs rest env) Q E s) : Then M A rest env Q E .next s := h
theorem thenR {rest : List Stmt} {v : Value} {Q : Flow → Shared → Prop} (h : Q (.ret v) s) : Then M A rest env Q E (.ret v) s := h
theorem thenB {rest : List Stmt} {Q : Flow → Shared → Prop} (h : Q .brk s) : Then M A rest env Q E .brk s := h
theorem thenC {rest : List Stmt} {Q : Flow → Shared → Prop} (h : Q .cont s) : Then M A rest env Q E .cont s := h
theorem retI {L' : Addr} {oL : Obj} {vs' : List Str} {l' : List (Option Value)} {v : Value} {Q : Value → Shared → Prop} (S : St h₀ os L' vs' l' ((L, oL) :: led) s) (h : St h₀ os L vs l led s → Q v s) : Ret h₀ os L vs l oL Q (.ret v) s := ⟨_, _, _, _, S, h⟩
theorem retN {L' : Addr} {oL : Obj} {vs' : List Str} {l' : List (Option Value)} {Q : Value → Shared → Prop} (S : St h₀ os L' vs' l' ((L, oL) :: led) s) (h : St h₀ os L vs l led s → Q .none s) : Ret h₀ os L vs l oL Q .next s := ⟨_, _, _, _, S, h⟩

theorem St.perm {led' : List (Addr × Obj)} (S : St h₀ os L vs l led s) (p : led.Perm led') : St h₀ os L vs l led' s :=
  ⟨S.F, fun q hq => S.N q (p.mem_iff.mpr hq), (p.map _).nodup_iff.mp S.nd, S.gens, S.os, S.tok⟩
theorem St.drop {led' : List (Addr × Obj)} (S : St h₀ os L vs l led s) (p : led'.Sublist led) : St h₀ os L vs l led' s :=
  ⟨S.F, fun q hq => S.N q (p.subset hq), (p.map _).nodup S.nd, S.gens, S.os, S.tok⟩

theorem retI' {L' : Addr} {oL : Obj} {vs' : List Str} {l' : List (Option Value)} {v : Value} {led' : List (Addr × Obj)} {Q : Value → Shared → Prop} (S : St h₀ os L' vs' l' led' s) (p : led'.Perm ((L, oL) :: led)) (h : St h₀ os L vs l led s → Q v s) : Ret h₀ os L vs l oL Q (.ret v) s := ⟨_, _, _, _, S.perm p, h⟩

/-- a state that the step left as it was, but for tokens -/
theorem St.kept {h' : Heap} {tk : Nat} (S : St h₀ os L vs l led s) (hk : ∀ b o, s.heap.get? b = some o → h'.get? b = some o) (ht : s.toks ≤ tk) : St h₀ os L vs l led { s with heap := h', toks := tk } :=
  ⟨S.F.grownK hk, S.N.grown hk, S.nd, S.gens, S.os, Nat.lt_of_lt_of_le S.tok ht⟩

theorem St.lt (S : St h₀ os L vs l led s) {p : Addr × Obj} (hp : p ∈ led) : p.1 < s.heap.objs.size := Heap.lt_size (S.N p hp).1
theorem St.base (S : St h₀ os L vs l led s) : h₀.objs.size ≤ s.heap.objs.size := Nat.le_trans S.F.above (Nat.le_of_lt (let ⟨_, _, _, h, _⟩ := S.F.ns; Heap.lt_size h))

theorem St.push {tk : Nat} (S : St h₀ os L vs l led s) (o : Obj) (ht : s.toks ≤ tk) (hf : o.isFreed = false := by rfl) : St h₀ os L vs l ((s.heap.objs.size, o) :: led) { s with heap := s.heap.push o, toks := tk } := by
  refine ⟨S.F.push o, News.push S.F S.N o hf, ?_, S.gens, S.os, Nat.lt_of_lt_of_le S.tok ht⟩
  rw [List.map_cons, List.nodup_cons]
  refine ⟨fun hm => ?_, S.nd⟩
  obtain ⟨p, hp, e⟩ := List.mem_map.mp hm
  exact absurd (S.lt hp) (e ▸ Nat.lt_irrefl _)

/-- an object was made by a step that kept all else -/
theorem St.made {h' : Heap} {tk : Nat} {a : Addr} {o : Obj} (S : St h₀ os L vs l led s) (hk : ∀ b o, s.heap.get? b = some o → h'.get? b = some o) (ha : h'.get? a = some o) (hn : s.heap.objs.size ≤ a) (ht : s.toks ≤ tk) :
    St h₀ os L vs l ((a, o) :: led) { s with heap := h', toks := tk } := by
  have S' := S.kept (tk := tk) hk ht
  have hLlt : L < s.heap.objs.size := let ⟨_, _, _, h, _⟩ := S.F.ns; Heap.lt_size h
  refine ⟨S'.F, fun p hp => ?_, ?_, S.gens, S.os, S'.tok⟩
  · rcases List.mem_cons.mp hp with rfl | hp
    · exact ⟨ha, Nat.ne_of_gt (Nat.lt_of_lt_of_le hLlt hn), none_of_ge (Nat.le_trans S.base hn)⟩
    · exact S'.N p hp
  · rw [List.map_cons, List.nodup_cons]
    refine ⟨fun hm => ?_, S.nd⟩
    obtain ⟨p, hp, e⟩ := List.mem_map.mp hm
    exact absurd (S.lt hp) (Nat.not_lt.mpr (e ▸ hn))

/-- an object of the ledger was changed, all else kept -/
theorem St.upd {h' : Heap} {tk : Nat} {a : Addr} {o o' : Obj} (S : St h₀ os L vs l ((a, o) :: led) s) (hk : Heap.SameBut a s.heap h') (ha : h'.get? a = some o') (ht : s.toks ≤ tk) :
    St h₀ os L vs l ((a, o') :: led) { s with heap := h', toks := tk } := by
  have nd := S.nd
  rw [List.map_cons, List.nodup_cons] at nd
  have N := S.N (a, o) (.head _)
  refine ⟨⟨?_, fun b x e => (hk.2 b fun q => ?_).trans (S.F.keep b x e), S.F.above⟩, fun p hp => ?_, by rw [List.map_cons, List.nodup_cons]; exact nd, S.gens, S.os, Nat.lt_of_lt_of_le S.tok ht⟩
  · obtain ⟨oL, es, ep, hL, r⟩ := S.F.ns
    exact ⟨oL, es, ep, (hk.2 L (Ne.symm N.2.1)).trans hL, r⟩
  · have := N.2.2; rw [← q, e] at this; cases this
  · rcases List.mem_cons.mp hp with rfl | hp
    · exact ⟨ha, N.2.1, N.2.2⟩
    · have P := S.N p (.tail _ hp)
      exact ⟨(hk.2 p.1 fun q => nd.1 (q ▸ List.mem_map.mpr ⟨p, hp, rfl⟩)).trans P.1, P.2⟩

/-! ### calls -/
theorem cwB {pos : Pos} {id : String} {first : List Value} {es : List Expr} {Q : Value → Shared → Prop} (hs : noStar es = true) (h : ArgsW M A env E es (fun vs s' => wpAny M A (call (.builtin id) (first ++ vs)) Q E s') s) :
    wpAny M A (callWith pos (.builtin id) first (backTo pos (starEach es env)) []) Q E s :=
  callWith_builtin (any_plain pos es hs) (evalArgs_es hs h)
theorem cwT {pos : Pos} {T : String} {first : List Value} {es : List Expr} {Q : Value → Shared → Prop} (hs : noStar es = true) (h : ArgsW M A env E es (fun vs s' => wpAny M A (call (.type T) (first ++ vs)) Q E s') s) :
    wpAny M A (callWith pos (.type T) first (backTo pos (starEach es env)) []) Q E s :=
  PySem.callWith_type (any_plain pos es hs) (evalArgs_es hs h)
theorem cwK {pos : Pos} {f : Value} {first : List Value} {es : List Expr} {Q : Value → Shared → Prop} (hs : noStar es = true) (hk : keepIn (KF w.params) f = true)
    (h : ArgsW M A env E es (fun vs s' => (KF w.params).In s'.heap ∧ wpAny M A (call f (first ++ vs)) Q E s') s) : wpAny M A (callWith pos f first (backTo pos (starEach es env)) []) Q E s :=
  callWith_of (by rw [any_plain pos es hs]; rfl) (keeps_K hk) (evalArgs_es hs h)

theorem callName {x : Str} {np pos : Pos} {es : List Expr} {Q : Value → Shared → Prop} (h : wpAny M A (eval (.Name x np) env) (fun f s₁ => wpAny M A (callWith pos f [] (backTo pos (starEach es env)) []) Q E s₁) E s) :
    wpAny M A (eval (.Call (.Name x np) es [] pos) env) Q E s := wpAny_Call_ofName h

/-! ### loops -/
theorem wpFor {target iter : Expr} {body orelse : List Stmt} {pos : Pos} {Q : Flow → Shared → Prop} (hf : ∀ x, foldedSetIterable iter env x = pure x)
    (h : wpAny M A (eval iter env) (fun x s₁ => wpAny M A (pyIter x) (fun it s₂ => codeAny M A (.forLoop target it body orelse env) (ForR M A env Q E) s₂) E s₁) E s) :
    wpAny M A (exec (.For target iter body orelse pos) env) Q E s := by
  show wpAny M A (do
    standAt pos
    let x ← foldedSetIterable iter env (← eval iter env)
    standAt iter.pos
    runOwn (.forLoop target (← holding [x] (pyIter x)) body orelse env) env) Q E s
  refine wpAny_bind (wpAny_standAt (wpAny_bind (wpAny_mono h (fun x s₁ h₁ => ?_) fun _ _ e => e)))
  rw [hf x]
  refine wpAny_bind (wpAny_pure (wpAny_bind (wpAny_standAt (wpAny_bind (wpAny_holding (wpAny_mono h₁ (fun it s₂ h₂ => ?_) fun _ _ e => e))))))
  exact wpAny_runOwn (codeAny_mono h₂ fun r s' hr => by cases r <;> exact hr)

/-- what a loop's turn hands on -/
def Turn (J : List (Option Value) → List (Addr × Obj) → Prop) (h₀ : Heap) (os : OsG) (L : Addr) (vs : List Str) (X : List (Addr × Obj)) (R : Result → Shared → Prop) (f : Flow) (s : Shared) : Prop :=
  match f with
  | .next | .cont => ∃ l' led', J l' led' ∧ St h₀ os L vs l' (led' ++ X) s
  | .brk => R (.ok .next) s
  | .ret v => R (.ok (.ret v)) s
end

section
variable {w : World} {A : Around} {s : Shared} {h₀ : Heap} {os : OsG} {L : Addr} {vs : List Str} {l : List (Option Value)} {led : List (Addr × Obj)} {env : Env}

theorem perm_mid {α : Type} (a b : List α) (x : α) : (a ++ x :: b).Perm (x :: (a ++ b)) := List.perm_middle
theorem pmA {α : Type} (a b : α) (x y r : List α) : (x ++ a :: b :: (y ++ r)).Perm (a :: b :: ((x ++ y) ++ r)) := by classical exact List.perm_iff_count.mpr fun z => by simp only [List.count_append, List.count_cons]; omega
theorem pmB {α : Type} (a b : α) (x y r : List α) : (x ++ a :: b :: (y ++ r)).Perm (b :: a :: ((x ++ y) ++ r)) := by classical exact List.perm_iff_count.mpr fun z => by simp only [List.count_append, List.count_cons]; omega
theorem pmC {α : Type} (a b c d e : α) (r : List α) : (a :: b :: c :: d :: e :: r).Perm (d :: a :: e :: b :: c :: r) := by classical exact List.perm_iff_count.mpr fun z => by simp only [List.count_append, List.count_cons]; omega
theorem pmD {α : Type} (a b c d e i j l : α) (x r : List α) : (a :: b :: c :: d :: e :: (x ++ i :: j :: l :: r)).Perm (c :: d :: e :: i :: j :: l :: a :: ((b :: x) ++ r)) := by classical exact List.perm_iff_count.mpr fun z => by simp only [List.count_append, List.count_cons]; omega
theorem pmE {α : Type} (a b d l : α) (x r : List α) : (a :: b :: (x ++ d :: l :: r)).Perm (b :: d :: l :: a :: (x ++ r)) := by classical exact List.perm_iff_count.mpr fun z => by simp only [List.count_append, List.count_cons]; omega
theorem pmF {α : Type} (d t l p q w : α) (x r : List α) : (d :: t :: (x ++ l :: p :: q :: w :: r)).Perm (p :: t :: (x ++ d :: l :: q :: w :: r)) := by classical exact List.perm_iff_count.mpr fun z => by simp only [List.count_append, List.count_cons]; omega
theorem pmG {α : Type} (a b i d l q w : α) (x y r : List α) : (x ++ a :: b :: (y ++ i :: d :: l :: q :: w :: r)).Perm (q :: (x ++ (a :: b :: (y ++ i :: d :: l :: w :: r)))) := by classical exact List.perm_iff_count.mpr fun z => by simp only [List.count_append, List.count_cons]; omega
theorem pmI {α : Type} (a b d l q w : α) (x r : List α) : (a :: b :: (x ++ d :: l :: q :: w :: r)).Perm (b :: d :: l :: a :: q :: w :: (x ++ r)) := by classical exact List.perm_iff_count.mpr fun z => by simp only [List.count_append, List.count_cons]; omega
theorem pmJ {α : Type} (d e q : α) (x r : List α) : (d :: (x ++ (e :: q :: r))).Perm (q :: (d :: (x ++ (e :: r)))) := by classical exact List.perm_iff_count.mpr fun z => by simp only [List.count_append, List.count_cons]; omega
theorem pmK {α : Type} (e d q a b i j l w : α) (x y r : List α) : (e :: d :: q :: (x ++ a :: b :: (y ++ i :: j :: l :: w :: r))).Perm (e :: l :: w :: a :: q :: d :: b :: i :: j :: (x ++ (y ++ r))) := by classical exact List.perm_iff_count.mpr fun z => by simp only [List.count_append, List.count_cons]; omega

theorem loopJ {I : Addr} {oI : Obj} {fp : List Addr} {n : Nat} {P : Nat → Value → Prop} {Sti : Nat → Heap → Prop} {target : Expr} {body : List Stmt} {R : Result → Shared → Prop} {led₀ : List (Addr × Obj)}
    (J : Nat → List (Option Value) → List (Addr × Obj) → Prop)
    (W : Walks pw w A I fp [I] n P Sti) (hfp : ∀ b ∈ fp, b ≠ I → (∃ o, h₀.get? b = some o) ∨ ∃ o, (b, o) ∈ led)
    (hI : ∀ i h, Sti i h → ∃ o, h.get? I = some o) (hst : Sti 0 s.heap) (S : St h₀ os L vs l (led₀ ++ (I, oI) :: led) s) (hJ : J 0 l led₀)
    (turn : ∀ i v l led' oI s, i < n → P i v → J i l led' → St h₀ os L vs l (led' ++ (I, oI) :: led) s →
      wpAny (model pw w) A (assign target env v) (fun _ s₂ => wpAny (model pw w) A (execs body env) (Turn (J (i + 1)) h₀ os L vs ((I, oI) :: led) R) (notedBy (model pw w) A env fun e s' => R (.error e) s') s₂) (notedBy (model pw w) A env fun e s' => R (.error e) s') s)
    (done : ∀ l led' s, J n l led' → St h₀ os L vs l (led' ++ led) s → R (.ok .next) s)
    (hlet : ∀ v, letOwnedTupleGo target (.ref I) v = pure () := by intro _; rfl) :
    codeAny (model pw w) A (.forLoop target (.ref I) body [] env) R s := by
  refine codeAny_forLoop_any (fun k s' => ∃ i l led' oI, J i l led' ∧ St h₀ os L vs l (led' ++ (I, oI) :: led) s' ∧ Sti i s'.heap ∧ i ≤ n ∧ k = n + 1 - i) ?_ (n + 1) ⟨0, l, led₀, oI, hJ, S, hst, Nat.zero_le _, rfl⟩
  rintro k s' ⟨i, l, led', oI, hJ, S, hst, hi, rfl⟩
  refine wpAny_with_toks (Nat.le_refl s'.toks) ?_
  have hIn : (I, oI) ∈ led' ++ (I, oI) :: led := List.mem_append_right _ (.head _)
  have SI := S.perm (perm_mid led' led (I, oI))
  have nd := SI.nd
  rw [List.map_cons, List.nodup_cons] at nd
  have NI := SI.N (I, oI) (.head _)
  -- the state behind a step of the iterator
  have moved : ∀ (h' : Heap) (tk : Nat) (oI' : Obj), (∀ b o, b ∉ [I] → s'.heap.get? b = some o → h'.get? b = some o) → h'.get? I = some oI' → s'.toks ≤ tk → St h₀ os L vs l ((I, oI') :: (led' ++ led)) { s' with heap := h', toks := tk } := by
    intro h' tk oI' hk hI ht
    have hk' : ∀ b o, b ≠ I → s'.heap.get? b = some o → h'.get? b = some o := fun b o hb e => hk b o (by simpa using hb) e
    refine ⟨⟨?_, fun b x e => hk' b x (fun q => ?_) (SI.F.keep b x e), SI.F.above⟩, fun p hp => ?_, by have := SI.nd; simpa using this, SI.gens, SI.os, Nat.lt_of_lt_of_le SI.tok ht⟩
    · obtain ⟨oL, es, ep, hL, r⟩ := SI.F.ns
      exact ⟨oL, es, ep, hk' L oL (Ne.symm NI.2.1) hL, r⟩
    · have := NI.2.2; rw [← q, e] at this; cases this
    · rcases List.mem_cons.mp hp with rfl | hp
      · exact ⟨hI, NI.2.1, NI.2.2⟩
      · have Pp := SI.N p (.tail _ hp)
        exact ⟨hk' p.1 p.2 (fun q => nd.1 (q ▸ List.mem_map.mpr ⟨p, hp, rfl⟩)) Pp.1, Pp.2⟩
  by_cases hlt : i < n
  · refine W.item i _ _ _ hlt hst fun v h' tk hP hst' hk ht => ?_
    obtain ⟨oI', hI'⟩ := hI (i + 1) h' hst'
    have S' := moved h' tk oI' hk hI' ht
    dsimp only
    rw [hlet v]
    refine wpAny_pure ?_
    refine wpAny_mono (turn i v l led' oI' _ hlt hP hJ (S'.perm (perm_mid led' led (I, oI')).symm)) (fun _ s₂ h₂ => wpAny_mono h₂ (fun f s₃ h₃ => ?_) fun _ _ e => e) fun _ _ e => e
    have key : ∀ (l' : List (Option Value)) (led'' : List (Addr × Obj)), J (i + 1) l' led'' → St h₀ os L vs l' (led'' ++ (I, oI') :: led) s₃ →
        ∃ m, m < n + 1 - i ∧ ∃ i l led' oI, J i l led' ∧ St h₀ os L vs l (led' ++ (I, oI) :: led) s₃ ∧ Sti i s₃.heap ∧ i ≤ n ∧ m = n + 1 - i := by
      intro l' led'' hJ' S₃
      refine ⟨n + 1 - (i + 1), by omega, i + 1, l', led'', oI', hJ', S₃, W.frame _ h' _ hst' fun b hb o e => ?_, hlt, rfl⟩
      by_cases q : b = I
      · subst q
        rw [hI'] at e
        cases e
        exact (S₃.N (b, oI') (List.mem_append_right _ (.head _))).1
      · rcases hfp b hb q with ⟨o₁, e₁⟩ | ⟨o₁, hm⟩
        · have e' : h'.get? b = some o₁ := S'.F.keep b o₁ e₁
          have q2 : o₁ = o := Option.some.inj (e'.symm.trans e)
          exact q2 ▸ S₃.F.keep b o₁ e₁
        · have e' : h'.get? b = some o₁ := (S'.N (b, o₁) (.tail _ (List.mem_append_right _ hm))).1
          have q2 : o₁ = o := Option.some.inj (e'.symm.trans e)
          exact q2 ▸ (S₃.N (b, o₁) (List.mem_append_right _ (.tail _ hm))).1
    cases f with
    | ret v => exact h₃
    | brk => exact h₃
    | next => obtain ⟨l', led'', a, b⟩ := h₃; exact key l' led'' a b
    | cont => obtain ⟨l', led'', a, b⟩ := h₃; exact key l' led'' a b
  · have hin : i = n := by omega
    subst hin
    refine W.done _ _ _ hst fun h' tk hk ht => ?_
    refine wpAny_execs_nil ?_
    -- the iterator may be gone: it is dropped
    have hk' : ∀ b o, b ≠ I → s'.heap.get? b = some o → h'.get? b = some o := fun b o hb e => hk b o (by simpa using hb) e
    refine done l led' _ hJ ⟨⟨?_, fun b x e => hk' b x (fun q => ?_) (SI.F.keep b x e), SI.F.above⟩, fun p hp => ?_, nd.2, SI.gens, SI.os, Nat.lt_of_lt_of_le SI.tok ht⟩
    · obtain ⟨oL, es, ep, hL, r⟩ := SI.F.ns
      exact ⟨oL, es, ep, hk' L oL (Ne.symm NI.2.1) hL, r⟩
    · have := NI.2.2; rw [← q, e] at this; cases this
    · have Pp := SI.N p (.tail _ hp)
      exact ⟨hk' p.1 p.2 (fun q => nd.1 (q ▸ List.mem_map.mpr ⟨p, hp, rfl⟩)) Pp.1, Pp.2⟩

/-- a for over a text's signs -/
theorem forStr {X : Str} {t : Tok} {target : Expr} {body : List Stmt} {Q : Flow → Shared → Prop} {E : Value → Shared → Prop} {led₀ : List (Addr × Obj)}
    (J : Nat → List (Option Value) → List (Addr × Obj) → Prop) (hh : A.handled = none) (S : St h₀ os L vs l (led₀ ++ led) s) (hJ : J 0 l led₀)
    (turn : ∀ i c t l led' I oI s, X.cps[i]? = some c → J i l led' → St h₀ os L vs l (led' ++ (I, oI) :: led) s →
      wpAny (model pw w) A (assign target env (.str ⟨#[c]⟩ t)) (fun _ s₂ => wpAny (model pw w) A (execs body env) (Turn (J (i + 1)) h₀ os L vs ((I, oI) :: led) (ForR (model pw w) A env Q E)) (notedBy (model pw w) A env fun e s' => ForR (model pw w) A env Q E (.error e) s') s₂) (notedBy (model pw w) A env fun e s' => ForR (model pw w) A env Q E (.error e) s') s)
    (done : ∀ l led' s, J X.cps.size l led' → St h₀ os L vs l (led' ++ led) s → Q .next s) (hlet : ∀ I v, letOwnedTupleGo target (.ref I) v = pure () := by intro _ _; rfl) :
    wpAny (model pw w) A (pyIter (.str X t)) (fun it s₂ => codeAny (model pw w) A (.forLoop target it body [] env) (ForR (model pw w) A env Q E) s₂) E s := by
  cases ha : X.cps.all (· < 128) with
  | true =>
    refine wpAny_pyIter_ascii ha ?_
    have S' := (S.push (tk := s.toks) { cls := .type "str_ascii_iterator", data := .fields #[.str X t, .int 0 0] } (Nat.le_refl _)).perm (perm_mid led₀ led _).symm
    refine loopJ J (Walks.strAscii hh s.heap.objs.size X t) (fun b hb hn => absurd (List.mem_singleton.mp hb) hn) (fun i h ⟨o, ho, _⟩ => ⟨o, ho⟩) ⟨_, Heap.get?_push_size _ rfl, rfl, rfl⟩ S' hJ (fun i v l led' oI s hi hP hJ S => ?_) done (hlet _)
    obtain ⟨c, u, hc, rfl⟩ := hP
    exact turn i c u l led' _ oI s hc hJ S
  | false =>
    refine wpAny_pyIter_wide ha ?_
    have S' := (S.push (tk := s.toks) { cls := .type "str_iterator", data := .fields #[.str X t, .int 0 0] } (Nat.le_refl _)).perm (perm_mid led₀ led _).symm
    refine loopJ J (Walks.strWide hh s.heap.objs.size X t) (fun b hb hn => absurd (List.mem_singleton.mp hb) hn) (fun i h ⟨o, ho, _⟩ => ⟨o, ho⟩) ⟨_, Heap.get?_push_size _ rfl, rfl, rfl⟩ S' hJ (fun i v l led' oI s hi hP hJ S => ?_) done (hlet _)
    obtain ⟨c, u, hc, rfl⟩ := hP
    exact turn i c u l led' _ oI s hc hJ S

/-- a for over a list that stays -/
theorem forList {a : Addr} {items : Array Value} {target : Expr} {body : List Stmt} {Q : Flow → Shared → Prop} {E : Value → Shared → Prop} {led₀ : List (Addr × Obj)}
    (J : Nat → List (Option Value) → List (Addr × Obj) → Prop) (hh : A.handled = none) (S : St h₀ os L vs l (led₀ ++ led) s) (hJ : J 0 l led₀) (hl : s.heap.IsList a items) (hm : (∃ o, h₀.get? a = some o) ∨ ∃ o, (a, o) ∈ led)
    (turn : ∀ i v l led' I oI s, items[i]? = some v → J i l led' → St h₀ os L vs l (led' ++ (I, oI) :: led) s →
      wpAny (model pw w) A (assign target env v) (fun _ s₂ => wpAny (model pw w) A (execs body env) (Turn (J (i + 1)) h₀ os L vs ((I, oI) :: led) (ForR (model pw w) A env Q E)) (notedBy (model pw w) A env fun e s' => ForR (model pw w) A env Q E (.error e) s') s₂) (notedBy (model pw w) A env fun e s' => ForR (model pw w) A env Q E (.error e) s') s)
    (done : ∀ l led' s, J items.size l led' → St h₀ os L vs l (led' ++ led) s → Q .next s) (hlet : ∀ I v, letOwnedTupleGo target (.ref I) v = pure () := by intro _ _; rfl) :
    wpAny (model pw w) A (pyIter (.ref a)) (fun it s₂ => codeAny (model pw w) A (.forLoop target it body [] env) (ForR (model pw w) A env Q E) s₂) E s := by
  refine wpAny_pyIter_list hl ?_
  have hlt : a < s.heap.objs.size := let ⟨_, h, _⟩ := hl; Heap.lt_size h
  have S' := (S.push (tk := s.toks) { cls := .type "list_iterator", data := .fields #[.ref a, .int 0 0] } (Nat.le_refl _)).perm (perm_mid led₀ led _).symm
  refine loopJ J (Walks.list hh s.heap.objs.size a (Nat.ne_of_lt hlt) items) (fun b hb hn => ?_) (fun i h x => let ⟨o, ho, _⟩ := x.1; ⟨o, ho⟩) ⟨⟨_, Heap.get?_push_size _ rfl, rfl, rfl⟩, hl.at fun o e => Heap.get?_push_of_some _ e⟩ S' hJ (fun i v l led' oI s hi hP hJ S => turn i v l led' _ oI s hP hJ S) done (hlet _)
  simp only [List.mem_cons, List.not_mem_nil, or_false] at hb
  rcases hb with rfl | rfl
  · exact absurd rfl hn
  · exact hm

/-- a for over a range by ones -/
theorem forRange {r : Addr} {a b : Int} {t u v : Tok} {target : Expr} {body : List Stmt} {Q : Flow → Shared → Prop} {E : Value → Shared → Prop} {led₀ : List (Addr × Obj)}
    (J : Nat → List (Option Value) → List (Addr × Obj) → Prop) (hh : A.handled = none) (S : St h₀ os L vs l (led₀ ++ led) s) (hJ : J 0 l led₀) (hr : IsRange s.heap r a b 1 t u v) (hs : Builtin.Range.small a b 1 = true)
    (turn : ∀ i t l led' I oI s, i < (b - a).toNat → J i l led' → St h₀ os L vs l (led' ++ (I, oI) :: led) s →
      wpAny (model pw w) A (assign target env (.int (a + (i : Nat)) t)) (fun _ s₂ => wpAny (model pw w) A (execs body env) (Turn (J (i + 1)) h₀ os L vs ((I, oI) :: led) (ForR (model pw w) A env Q E)) (notedBy (model pw w) A env fun e s' => ForR (model pw w) A env Q E (.error e) s') s₂) (notedBy (model pw w) A env fun e s' => ForR (model pw w) A env Q E (.error e) s') s)
    (done : ∀ l led' s, J (b - a).toNat l led' → St h₀ os L vs l (led' ++ led) s → Q .next s) (hlet : ∀ I v, letOwnedTupleGo target (.ref I) v = pure () := by intro _ _; rfl) :
    wpAny (model pw w) A (pyIter (.ref r)) (fun it s₂ => codeAny (model pw w) A (.forLoop target it body [] env) (ForR (model pw w) A env Q E) s₂) E s := by
  refine wpAny_pyIter_range hr hs ?_
  have hsz : Builtin.Range.rangeSize a b 1 = ((b - a).toNat : Int) := by
    unfold Builtin.Range.rangeSize
    rw [if_pos (by decide)]
    split
    · rw [Int.ediv_one]; omega
    · omega
  have S' := (S.push (tk := s.toks) { cls := .type "range_iterator", data := .fields #[rawInt a, rawInt (Builtin.Range.rangeSize a b 1), rawInt 1] } (Nat.le_refl _)).perm (perm_mid led₀ led _).symm
  have W := Walks.range (prog := pw) (w := w) hh s.heap.objs.size a 1 (b - a).toNat
  refine loopJ J W (fun b hb hn => absurd (List.mem_singleton.mp hb) hn) (fun i h x => ?_) ?_ S' hJ (fun i v l led' oI s hi hP hJ S => ?_) done (hlet _)
  · exact ⟨_, x⟩
  · show (s.heap.push _).get? s.heap.objs.size = _
    rw [Heap.get?_push_size _ rfl, hsz]
    simp
  · obtain ⟨t, rfl⟩ := hP
    rw [Int.mul_one]
    exact turn i t l led' _ oI s hi hJ S
end
end
section
open PySem PySem.W PySem.Calls PyProof.Rows
set_option maxRecDepth 100000
set_option linter.unusedVariables false

section
variable {M : Model} {w : World} {A : Around} {E : Value → Shared → Prop} {s : Shared} {h₀ : Heap} {os : OsG} {L : Addr} {vs : List Str} {l : List (Option Value)} {led : List (Addr × Obj)} {env : Env}

theorem cNone {k : Nat} {pos : Pos} {Q : Value → Shared → Prop} (h : Q .none s) : wpAny M A (eval (.Constant .none k pos) env) Q E s := wpAny_pure h
theorem cBool {b : Bool} {k : Nat} {pos : Pos} {Q : Value → Shared → Prop} (h : Q (.bool b) s) : wpAny M A (eval (.Constant (.bool b) k pos) env) Q E s := wpAny_pure h

theorem addI {a b : Int} {t u : Tok} {Q : Value → Shared → Prop} (S : St h₀ os L vs l led s) (h : ∀ t' s', St h₀ os L vs l led s' → Q (.int (a + b) t') s') : wpAny (model pw w) A (binaryOp .Add (.int a t) (.int b u)) Q E s :=
  PyProof.Rows.add_int (h _ _ (S.toks (Nat.succ_pos _)))
theorem subI {a b : Int} {t u : Tok} {Q : Value → Shared → Prop} (S : St h₀ os L vs l led s) (h : ∀ t' s', St h₀ os L vs l led s' → Q (.int (a - b) t') s') : wpAny (model pw w) A (binaryOp .Sub (.int a t) (.int b u)) Q E s :=
  PyProof.Rows.sub_int (h _ _ (S.toks (Nat.succ_pos _)))
theorem modI {a b : Int} {t u : Tok} {Q : Value → Shared → Prop} (S : St h₀ os L vs l led s) (hb : b ≠ 0) (h : ∀ t' s', St h₀ os L vs l led s' → Q (.int (a.fmod b) t') s') : wpAny (model pw w) A (binaryOp .Mod (.int a t) (.int b u)) Q E s :=
  mod_int' hb (h _ _ (S.toks (Nat.succ_pos _)))
theorem divI {a b : Int} {t u : Tok} {Q : Value → Shared → Prop} (S : St h₀ os L vs l led s) (hb : b ≠ 0) (hp : Builtin.divisionGoesByPylong a b = false) (h : ∀ t' s', St h₀ os L vs l led s' → Q (.int (a.fdiv b) t') s') : wpAny (model pw w) A (binaryOp .FloorDiv (.int a t) (.int b u)) Q E s :=
  floordiv_int hb (h _ _ (S.toks (Nat.succ_pos _))) (.inl hp)
theorem mulI {a b : Int} {t u : Tok} {Q : Value → Shared → Prop} (S : St h₀ os L vs l led s) (hm : IntMulOk a b) (h : ∀ t' s', St h₀ os L vs l led s' → Q (.int (a * b) t') s') : wpAny (model pw w) A (binaryOp .Mult (.int a t) (.int b u)) Q E s :=
  PySem.P.mul_int (h _ _ (S.toks (Nat.succ_pos _))) hm
theorem addS {a b : Str} {t u : Tok} {Q : Value → Shared → Prop} (S : St h₀ os L vs l led s) (hsz : a.length + b.length ≤ sizeLine) (h : ∀ t' s', St h₀ os L vs l led s' → Q (.str (a ++ b) t') s') : wpAny (model pw w) A (binaryOp .Add (.str a t) (.str b u)) Q E s :=
  wpAny_with_toks (Nat.le_refl s.toks) (PyProof.Rows.add_str (fun t' tk ht => h t' _ (S.toks (Nat.lt_of_lt_of_le S.tok ht))) hsz)

/-- one sign by a text -/
def rep1 (c : Nat) (z : List Nat) (x : List Nat) : List Nat := x.flatMap fun a => if a = c then z else [a]
def repS (c : Nat) (z x : Str) : Str := ⟨(rep1 c z.cps.toList x.cps.toList).toArray⟩

theorem rep1_join (c : Nat) (z : Str) : ∀ ps : List Str, ps ≠ [] → (∀ p ∈ ps, c ∉ p.cps.toList) → (Str.join z ps).cps.toList = rep1 c z.cps.toList (Str.join ⟨#[c]⟩ ps).cps.toList := by
  have free : ∀ p : List Nat, c ∉ p → rep1 c z.cps.toList p = p := by
    intro p hp
    unfold rep1
    induction p with
    | nil => rfl
    | cons a r ih =>
      rw [List.flatMap_cons, ih (fun h => hp (.tail _ h)), if_neg (fun (e : a = c) => hp (e ▸ .head _))]
      rfl
  intro ps
  induction ps with
  | nil => intro h; exact absurd rfl h
  | cons p r ih =>
    intro _ hf
    cases r with
    | nil => exact (free _ (hf p (.head _))).symm
    | cons q r =>
      show (p ++ z ++ Str.join z (q :: r)).cps.toList = rep1 c z.cps.toList (p ++ ⟨#[c]⟩ ++ Str.join ⟨#[c]⟩ (q :: r)).cps.toList
      have app : ∀ a b : Str, (a ++ b).cps.toList = a.cps.toList ++ b.cps.toList := fun a b => Array.toList_append
      rw [app, app, app, app, ih (by simp) (fun p hp => hf p (.tail _ hp))]
      unfold rep1
      rw [List.flatMap_append, List.flatMap_append]
      have := free p.cps.toList (hf p (.head _))
      unfold rep1 at this
      rw [this]
      simp

theorem split_ne_nil (x y : Str) : Txt.split x y ≠ [] := by
  have := split_pos x y
  intro e; rw [e] at this; simp at this

theorem replace_rep (c : Nat) (x z : Str) : Txt.replace x ⟨#[c]⟩ z = repS c z x := by
  rw [StrLaws.replace_one]
  have h := rep1_join c z (Txt.split x ⟨#[c]⟩) (split_ne_nil _ _) (StrLaws.split_free x c)
  rw [StrLaws.join_split] at h
  unfold repS
  rw [← h]

theorem repS_none {c : Nat} {z x : Str} (h : c ∉ x.cps.toList) : repS c z x = x := by
  unfold repS rep1
  have : (x.cps.toList.flatMap fun a => if a = c then z.cps.toList else [a]) = x.cps.toList := by
    generalize x.cps.toList = l at h
    induction l with
    | nil => rfl
    | cons a r ih => rw [List.flatMap_cons, ih (fun q => h (.tail _ q)), if_neg (fun (e : a = c) => h (e ▸ .head _))]; rfl
  rw [this]

/-- x.replace(y, z) of written texts -/
theorem replC {x y z : Str} {t : Tok} {k1 k2 : Nat} {p p1 p2 : Pos} {Q : Value → Shared → Prop} (S : St h₀ os L vs l led s) (hyz : (y == z) = false) (hb : x.length + (x.length + 1) * z.length ≤ 16777216)
    (h : ∀ t' s', St h₀ os L vs l led s' → Q (.str (Txt.replace x y z) t') s') :
    wpAny (model pw w) A (callWith p (.builtin "str.replace") [.str x t] (backTo p (starEach [.Constant (.str y) k1 p1, .Constant (.str z) k2 p2] env)) []) Q E s := by
  refine cwB rfl ?_
  dsimp only [ArgsW]
  refine Constant_str (Constant_str ?_)
  have h0 := S.tok
  refine wpAny_with_toks (Nat.le_refl _) (SC.replace (by show s.toks ≠ 0; omega) (by show s.toks + 1 ≠ 0; omega) (by show s.toks ≠ s.toks + 1; omega) hyz hb fun t' k hk => ?_)
  exact h t' _ (S.toks (Nat.lt_of_lt_of_le (Nat.succ_pos _) hk))

theorem methodForm {o : Expr} {name : Str} {es : List Expr} {apos pos : Pos} (hbase : attributeBase o name env (eval o env) = eval o env) (hs : noStar es = true) (hn : es.length < 30) (hline : (apos.endLine == pos.line) = true) :
    eval (.Call (.Attribute o name apos) es [] pos) env = (do
      let ov ← eval o env
      standAt apos.atName
      let (f, first) ← holding [ov] (getMethod ov name (do return (← importBound o env).getD true))
      callWith pos f first (backTo pos (starEach es env)) []) := by
  rw [arm_eval_Call, hbase]
  have hf : methodCallForm (es.length + ([] : List Keyword).length) (backTo pos (starEach es env)) (backToKw pos (keywordEach [] env)) = true := by
    unfold methodCallForm
    rw [backTo_plain pos es hs]
    simp only [List.all_map, Function.comp_def, Bool.not_false, List.length_nil, Nat.add_zero]
    show ((es.all fun _ => true) && ([] : List (Option Str × Sem Value)).all (·.1.isSome) && decide (es.length + 0 < 30)) = true
    simp [hn]
  unfold methodCall
  rw [hf]
  unfold calleeOf methodCallPos
  rw [hline]
  rfl

/-- o.name(es) -/
theorem methI {o : Expr} {name : Str} {es : List Expr} {apos pos : Pos} {Q : Value → Shared → Prop} (hbase : attributeBase o name env (eval o env) = eval o env) (hs : noStar es = true) (hn : es.length < 30) (hline : (apos.endLine == pos.line) = true)
    (h : wpAny M A (eval o env) (fun ov s₁ => ∀ pl, wpAny M A (getMethod ov name pl) (fun fx s₂ => wpAny M A (callWith pos fx.1 fx.2 (backTo pos (starEach es env)) []) Q E s₂) E s₁) E s) :
    wpAny M A (eval (.Call (.Attribute o name apos) es [] pos) env) Q E s := by
  rw [methodForm hbase hs hn hline]
  exact wpAny_bind (wpAny_mono h (fun ov s₁ h₁ => wpAny_bind (wpAny_standAt (wpAny_bind (wpAny_holding (wpAny_mono (h₁ _) (fun fx s₂ h₂ => h₂) fun _ _ e => e))))) fun _ _ e => e)

/-- if C in text: text = text.replace(C, Z) -/
theorem escIf {x C Z : Str} {c : Nat} {n : Str} {i : Nat} {t : Tok} {k1 k2 k3 : Nat} {p1 p2 p3 p4 p5 p6 p7 p8 p9 p10 p11 : Pos} {Q : Flow → Shared → Prop} (S : St h₀ os L vs l led s) (V : Slot env L vs n i)
    (hl : l[i]? = some (some (.str x t))) (hi : i < l.length) (hC : C = ⟨#[c]⟩) (hCZ : (C == Z) = false) (hb : x.length + (x.length + 1) * Z.length ≤ 16777216)
    (hline : (p6.endLine == p9.line) = true) (hsw : swapsWith (.Call (.Attribute (.Name n p5) "replace" p6) [.Constant (.str C) k2 p7, .Constant (.str Z) k3 p8] [] p9) (some (.Name n p4)) p10.line env = pure false)
    (h : ∀ t' s', St h₀ os L vs (l.set i (some (.str (repS c Z x) t'))) led s' → Q .next s') :
    wpAny (model pw w) A (exec (.If (.Compare (.Constant (.str C) k1 p1) [.In] [.Name n p2] p3)
      [.Assign [.Name n p4] (.Call (.Attribute (.Name n p5) "replace" p6) [.Constant (.str C) k2 p7, .Constant (.str Z) k3 p8] [] p9) p10] [] p11) env) Q E s := by
  subst hC
  refine wpAny_If (wpAny_isTrue_Compare1 (cStr S ?_) rfl)
  intro t₁ s₁ S₁
  refine nmL S₁ V hl ?_
  refine PyProof.Rows.in_str ?_
  rw [StrLaws.found_one]
  refine wpAny_truthy_bool ?_
  split
  · refine wpAny_execs_cons (wpAny_Assign_Name ?_ hsw)
    refine methI rfl rfl (by show 2 < 30; decide) hline (nmL S₁ V hl fun pl => GM.replace ?_)
    refine replC S₁ hCZ hb ?_
    intro t₂ s₂ S₂
    refine stL S₂ V hi ?_
    intro s₃ S₃
    refine wpAny_execs_nil ?_
    rw [replace_rep] at S₃
    exact h _ _ S₃
  · rename_i hno
    refine wpAny_execs_nil ?_
    have hno' : c ∉ x.cps.toList := by simpa using hno
    refine h t s₁ ?_
    rw [repS_none hno']
    have : l.set i (some (.str x t)) = l := by
      apply List.ext_getElem?
      intro j
      rw [List.getElem?_set]
      split
      · rename_i e; subst e; rw [hl]; try rfl
      · rfl
    rw [this]; exact S₁

theorem iteT {p q : Prop} (h : p) : if true = true then p else q := by rw [if_pos rfl]; exact h
theorem iteF {p q : Prop} (h : q) : if false = true then p else q := by rw [if_neg (by decide)]; exact h
theorem len1 (c : Nat) : (⟨#[c]⟩ : Str).length = 1 := rfl
theorem lenlits : (Str.ofString " ").length = 1 ∧ (Str.ofString "\t").length = 1 ∧ (Str.ofString "\n").length = 1 ∧ (Str.ofString "?").length = 1 ∧ (Str.ofString "").length = 0 ∧ (Str.ofString "s").length = 1 := by decide +kernel
theorem ne1 (c d : Nat) : ((⟨#[c]⟩ : Str) != ⟨#[d]⟩) = (c != d) := by
  rw [Bool.eq_iff_iff]; simp
theorem eq1 (c d : Nat) : ((⟨#[c]⟩ : Str) == ⟨#[d]⟩) = (c == d) := by
  rw [Bool.eq_iff_iff]; simp
theorem lit_nl : Str.ofString "\n" = ⟨#[10]⟩ := by decide +kernel
theorem lit_cr : Str.ofString "\r" = ⟨#[13]⟩ := by decide +kernel
theorem lit_tab : Str.ofString "\t" = ⟨#[9]⟩ := by decide +kernel
theorem lit_sp : Str.ofString " " = ⟨#[32]⟩ := by decide +kernel
theorem lit_ws : (Str.ofString "\r\n\t<>\"").cps.toList = [13, 10, 9, 60, 62, 34] := by decide +kernel
theorem lit_mk : (Str.ofString "<>\"").cps.toList = [60, 62, 34] := by decide +kernel
theorem lit_st : (Str.ofString " \t").cps.toList = [32, 9] := by decide +kernel
theorem app_list (a b : Str) : (a ++ b).cps.toList = a.cps.toList ++ b.cps.toList := Array.toList_append

theorem isOr2 {x y : Expr} {pos : Pos} {whole : Sem Value} {Q : Bool → Shared → Prop} (h : wpAny M A (isTrue x env (eval x env)) (fun b s₁ => if b then Q true s₁ else wpAny M A (isTrue y env (eval y env)) Q E s₁) E s) :
    wpAny M A (isTrue (.BoolOp .Or [x, y] pos) env whole) Q E s := by
  show wpAny M A (isTrue x env (eval x env) >>= fun b => match BoolOp.Or, b with
    | .And, false => pure false
    | .Or, true => pure true
    | _, _ => isTrue y env (eval y env) >>= fun b => match BoolOp.Or, b with
      | .And, false => pure false
      | .Or, true => pure true
      | _, _ => pure (BoolOp.Or == .And)) Q E s
  refine wpAny_bind (wpAny_mono h (fun b s₁ h₁ => ?_) fun _ _ e => e)
  cases b with
  | true => exact wpAny_pure h₁
  | false =>
    refine wpAny_bind (wpAny_mono h₁ (fun b s₂ h₂ => ?_) fun _ _ e => e)
    cases b with
    | true => exact wpAny_pure h₂
    | false => exact wpAny_pure h₂

theorem isAnd2 {x y : Expr} {pos : Pos} {whole : Sem Value} {Q : Bool → Shared → Prop} (h : wpAny M A (isTrue x env (eval x env)) (fun b s₁ => if b then wpAny M A (isTrue y env (eval y env)) Q E s₁ else Q false s₁) E s) :
    wpAny M A (isTrue (.BoolOp .And [x, y] pos) env whole) Q E s := by
  show wpAny M A (isTrue x env (eval x env) >>= fun b => match BoolOp.And, b with
    | .And, false => pure false
    | .Or, true => pure true
    | _, _ => isTrue y env (eval y env) >>= fun b => match BoolOp.And, b with
      | .And, false => pure false
      | .Or, true => pure true
      | _, _ => pure (BoolOp.And == .And)) Q E s
  refine wpAny_bind (wpAny_mono h (fun b s₁ h₁ => ?_) fun _ _ e => e)
  cases b with
  | false => exact wpAny_pure h₁
  | true =>
    refine wpAny_bind (wpAny_mono h₁ (fun b s₂ h₂ => ?_) fun _ _ e => e)
    cases b with
    | true => exact wpAny_pure h₂
    | false => exact wpAny_pure h₂

theorem isPlain {e : Expr} {whole : Sem Value} {Q : Bool → Shared → Prop} (he : isTrue e env whole = (do let v ← whole; standAt e.pos; holding [v] (truthy v))) (h : wpAny M A whole (fun v s₁ => wpAny M A (truthy v) Q E s₁) E s) :
    wpAny M A (isTrue e env whole) Q E s := isTrue_plain h he

theorem inS {x : Str} {c : Nat} {t u : Tok} {Q : Value → Shared → Prop} (h : Q (.bool (decide (c ∈ x.cps.toList))) s) : wpAny (model pw w) A (compareOp .In (.str ⟨#[c]⟩ u) (.str x t)) Q E s :=
  PyProof.Rows.in_str (by rw [StrLaws.found_one]; exact h)
theorem notInS {x : Str} {c : Nat} {t u : Tok} {Q : Value → Shared → Prop} (h : Q (.bool (!decide (c ∈ x.cps.toList))) s) : wpAny (model pw w) A (compareOp .NotIn (.str ⟨#[c]⟩ u) (.str x t)) Q E s :=
  PyProof.Rows.notIn_str (by rw [StrLaws.found_one]; exact h)

theorem turnN {J : List (Option Value) → List (Addr × Obj) → Prop} {X led' : List (Addr × Obj)} {R : Result → Shared → Prop} (S : St h₀ os L vs l (led' ++ X) s) (h : J l led') : Turn J h₀ os L vs X R .next s := ⟨l, led', h, S⟩
theorem turnC {J : List (Option Value) → List (Addr × Obj) → Prop} {X led' : List (Addr × Obj)} {R : Result → Shared → Prop} (S : St h₀ os L vs l (led' ++ X) s) (h : J l led') : Turn J h₀ os L vs X R .cont s := ⟨l, led', h, S⟩
theorem turnB {J : List (Option Value) → List (Addr × Obj) → Prop} {X : List (Addr × Obj)} {R : Result → Shared → Prop} (h : R (.ok .next) s) : Turn J h₀ os L vs X R .brk s := h
theorem turnR {J : List (Option Value) → List (Addr × Obj) → Prop} {X : List (Addr × Obj)} {v : Value} {R : Result → Shared → Prop} (h : R (.ok (.ret v)) s) : Turn J h₀ os L vs X R (.ret v) s := h
end
end
section
open PySem PySem.W PySem.Calls PyProof.Rows
set_option maxRecDepth 100000
abbrev vs_nninit : List Str := [Str.ofString "self", Str.ofString "lineno", Str.ofString "msg", Str.ofString "line"]
abbrev rs_nninit : List Str := []
theorem sl_nninit_self (P : Params) (L : Addr) : Slot (callEnv (fdOf P 35) L 35) L vs_nninit (Str.ofString "self") 0 := ⟨by kernel_rfl, rfl, by kernel_rfl, by kernel_rfl, by decide +kernel⟩
theorem sl_nninit_lineno (P : Params) (L : Addr) : Slot (callEnv (fdOf P 35) L 35) L vs_nninit (Str.ofString "lineno") 1 := ⟨by kernel_rfl, rfl, by kernel_rfl, by kernel_rfl, by decide +kernel⟩
theorem sl_nninit_msg (P : Params) (L : Addr) : Slot (callEnv (fdOf P 35) L 35) L vs_nninit (Str.ofString "msg") 2 := ⟨by kernel_rfl, rfl, by kernel_rfl, by kernel_rfl, by decide +kernel⟩
theorem sl_nninit_line (P : Params) (L : Addr) : Slot (callEnv (fdOf P 35) L 35) L vs_nninit (Str.ofString "line") 3 := ⟨by kernel_rfl, rfl, by kernel_rfl, by kernel_rfl, by decide +kernel⟩
theorem fn_nninit (P : Params) (a0 a1 a2 a3 : Value) : FnOk P 35 [Str.ofString "self", Str.ofString "lineno", Str.ofString "msg", Str.ofString "line"] [a0, a1, a2, a3] := ⟨by kernel_rfl, by kernel_rfl, by kernel_rfl, by kernel_rfl, by kernel_rfl, rfl, by decide +kernel, by kernel_rfl, by kernel_rfl, by kernel_rfl, by kernel_rfl, by kernel_rfl⟩
abbrev vs_nnlineno : List Str := [Str.ofString "self"]
abbrev rs_nnlineno : List Str := []
theorem sl_nnlineno_self (P : Params) (L : Addr) : Slot (callEnv (fdOf P 42) L 42) L vs_nnlineno (Str.ofString "self") 0 := ⟨by kernel_rfl, rfl, by kernel_rfl, by kernel_rfl, by decide +kernel⟩
theorem fn_nnlineno (P : Params) (a0 : Value) : FnOk P 42 [Str.ofString "self"] [a0] := ⟨by kernel_rfl, by kernel_rfl, by kernel_rfl, by kernel_rfl, by kernel_rfl, rfl, by decide +kernel, by kernel_rfl, by kernel_rfl, by kernel_rfl, by kernel_rfl, by kernel_rfl⟩
abbrev vs_nnmsg : List Str := [Str.ofString "self"]
abbrev rs_nnmsg : List Str := []
theorem sl_nnmsg_self (P : Params) (L : Addr) : Slot (callEnv (fdOf P 49) L 49) L vs_nnmsg (Str.ofString "self") 0 := ⟨by kernel_rfl, rfl, by kernel_rfl, by kernel_rfl, by decide +kernel⟩
theorem fn_nnmsg (P : Params) (a0 : Value) : FnOk P 49 [Str.ofString "self"] [a0] := ⟨by kernel_rfl, by kernel_rfl, by kernel_rfl, by kernel_rfl, by kernel_rfl, rfl, by decide +kernel, by kernel_rfl, by kernel_rfl, by kernel_rfl, by kernel_rfl, by kernel_rfl⟩
abbrev vs_nnline : List Str := [Str.ofString "self"]
abbrev rs_nnline : List Str := []
theorem sl_nnline_self (P : Params) (L : Addr) : Slot (callEnv (fdOf P 56) L 56) L vs_nnline (Str.ofString "self") 0 := ⟨by kernel_rfl, rfl, by kernel_rfl, by kernel_rfl, by decide +kernel⟩
theorem fn_nnline (P : Params) (a0 : Value) : FnOk P 56 [Str.ofString "self"] [a0] := ⟨by kernel_rfl, by kernel_rfl, by kernel_rfl, by kernel_rfl, by kernel_rfl, rfl, by decide +kernel, by kernel_rfl, by kernel_rfl, by kernel_rfl, by kernel_rfl, by kernel_rfl⟩
abbrev vs_wsinit : List Str := [Str.ofString "self", Str.ofString "ws", Str.ofString "S", Str.ofString "T", Str.ofString "count", Str.ofString "b", Str.ofString "n", Str.ofString "nt", Str.ofString "ch"]
abbrev rs_wsinit : List Str := [Str.ofString "S", Str.ofString "T", Str.ofString "count", Str.ofString "b", Str.ofString "n", Str.ofString "nt", Str.ofString "ch"]
theorem sl_wsinit_self (P : Params) (L : Addr) : Slot (callEnv (fdOf P 79) L 79) L vs_wsinit (Str.ofString "self") 0 := ⟨by kernel_rfl, rfl, by kernel_rfl, by kernel_rfl, by decide +kernel⟩
theorem sl_wsinit_ws (P : Params) (L : Addr) : Slot (callEnv (fdOf P 79) L 79) L vs_wsinit (Str.ofString "ws") 1 := ⟨by kernel_rfl, rfl, by kernel_rfl, by kernel_rfl, by decide +kernel⟩
theorem sl_wsinit_S (P : Params) (L : Addr) : Slot (callEnv (fdOf P 79) L 79) L vs_wsinit (Str.ofString "S") 2 := ⟨by kernel_rfl, rfl, by kernel_rfl, by kernel_rfl, by decide +kernel⟩
theorem sl_wsinit_T (P : Params) (L : Addr) : Slot (callEnv (fdOf P 79) L 79) L vs_wsinit (Str.ofString "T") 3 := ⟨by kernel_rfl, rfl, by kernel_rfl, by kernel_rfl, by decide +kernel⟩
theorem sl_wsinit_count (P : Params) (L : Addr) : Slot (callEnv (fdOf P 79) L 79) L vs_wsinit (Str.ofString "count") 4 := ⟨by kernel_rfl, rfl, by kernel_rfl, by kernel_rfl, by decide +kernel⟩
theorem sl_wsinit_b (P : Params) (L : Addr) : Slot (callEnv (fdOf P 79) L 79) L vs_wsinit (Str.ofString "b") 5 := ⟨by kernel_rfl, rfl, by kernel_rfl, by kernel_rfl, by decide +kernel⟩
theorem sl_wsinit_n (P : Params) (L : Addr) : Slot (callEnv (fdOf P 79) L 79) L vs_wsinit (Str.ofString "n") 6 := ⟨by kernel_rfl, rfl, by kernel_rfl, by kernel_rfl, by decide +kernel⟩
theorem sl_wsinit_nt (P : Params) (L : Addr) : Slot (callEnv (fdOf P 79) L 79) L vs_wsinit (Str.ofString "nt") 7 := ⟨by kernel_rfl, rfl, by kernel_rfl, by kernel_rfl, by decide +kernel⟩
theorem sl_wsinit_ch (P : Params) (L : Addr) : Slot (callEnv (fdOf P 79) L 79) L vs_wsinit (Str.ofString "ch") 8 := ⟨by kernel_rfl, rfl, by kernel_rfl, by kernel_rfl, by decide +kernel⟩
theorem fn_wsinit (P : Params) (a0 a1 : Value) : FnOk P 79 [Str.ofString "self", Str.ofString "ws"] [a0, a1] := ⟨by kernel_rfl, by kernel_rfl, by kernel_rfl, by kernel_rfl, by kernel_rfl, rfl, by decide +kernel, by kernel_rfl, by kernel_rfl, by kernel_rfl, by kernel_rfl, by kernel_rfl⟩
abbrev vs_wslong : List Str := [Str.ofString "self", Str.ofString "count", Str.ofString "trailing"]
abbrev rs_wslong : List Str := [Str.ofString "count", Str.ofString "trailing"]
theorem sl_wslong_self (P : Params) (L : Addr) : Slot (callEnv (fdOf P 86) L 86) L vs_wslong (Str.ofString "self") 0 := ⟨by kernel_rfl, rfl, by kernel_rfl, by kernel_rfl, by decide +kernel⟩
theorem sl_wslong_count (P : Params) (L : Addr) : Slot (callEnv (fdOf P 86) L 86) L vs_wslong (Str.ofString "count") 1 := ⟨by kernel_rfl, rfl, by kernel_rfl, by kernel_rfl, by decide +kernel⟩
theorem sl_wslong_trailing (P : Params) (L : Addr) : Slot (callEnv (fdOf P 86) L 86) L vs_wslong (Str.ofString "trailing") 2 := ⟨by kernel_rfl, rfl, by kernel_rfl, by kernel_rfl, by decide +kernel⟩
theorem fn_wslong (P : Params) (a0 : Value) : FnOk P 86 [Str.ofString "self"] [a0] := ⟨by kernel_rfl, by kernel_rfl, by kernel_rfl, by kernel_rfl, by kernel_rfl, rfl, by decide +kernel, by kernel_rfl, by kernel_rfl, by kernel_rfl, by kernel_rfl, by kernel_rfl⟩
abbrev vs_wsind : List Str := [Str.ofString "self", Str.ofString "tabsize", Str.ofString "count", Str.ofString "trailing", Str.ofString "il", Str.ofString "i"]
abbrev rs_wsind : List Str := [Str.ofString "count", Str.ofString "trailing", Str.ofString "il", Str.ofString "i"]
theorem sl_wsind_self (P : Params) (L : Addr) : Slot (callEnv (fdOf P 93) L 93) L vs_wsind (Str.ofString "self") 0 := ⟨by kernel_rfl, rfl, by kernel_rfl, by kernel_rfl, by decide +kernel⟩
theorem sl_wsind_tabsize (P : Params) (L : Addr) : Slot (callEnv (fdOf P 93) L 93) L vs_wsind (Str.ofString "tabsize") 1 := ⟨by kernel_rfl, rfl, by kernel_rfl, by kernel_rfl, by decide +kernel⟩
theorem sl_wsind_count (P : Params) (L : Addr) : Slot (callEnv (fdOf P 93) L 93) L vs_wsind (Str.ofString "count") 2 := ⟨by kernel_rfl, rfl, by kernel_rfl, by kernel_rfl, by decide +kernel⟩
theorem sl_wsind_trailing (P : Params) (L : Addr) : Slot (callEnv (fdOf P 93) L 93) L vs_wsind (Str.ofString "trailing") 3 := ⟨by kernel_rfl, rfl, by kernel_rfl, by kernel_rfl, by decide +kernel⟩
theorem sl_wsind_il (P : Params) (L : Addr) : Slot (callEnv (fdOf P 93) L 93) L vs_wsind (Str.ofString "il") 4 := ⟨by kernel_rfl, rfl, by kernel_rfl, by kernel_rfl, by decide +kernel⟩
theorem sl_wsind_i (P : Params) (L : Addr) : Slot (callEnv (fdOf P 93) L 93) L vs_wsind (Str.ofString "i") 5 := ⟨by kernel_rfl, rfl, by kernel_rfl, by kernel_rfl, by decide +kernel⟩
theorem fn_wsind (P : Params) (a0 a1 : Value) : FnOk P 93 [Str.ofString "self", Str.ofString "tabsize"] [a0, a1] := ⟨by kernel_rfl, by kernel_rfl, by kernel_rfl, by kernel_rfl, by kernel_rfl, rfl, by decide +kernel, by kernel_rfl, by kernel_rfl, by kernel_rfl, by kernel_rfl, by kernel_rfl⟩
abbrev vs_wseq : List Str := [Str.ofString "self", Str.ofString "other"]
abbrev rs_wseq : List Str := []
theorem sl_wseq_self (P : Params) (L : Addr) : Slot (callEnv (fdOf P 100) L 100) L vs_wseq (Str.ofString "self") 0 := ⟨by kernel_rfl, rfl, by kernel_rfl, by kernel_rfl, by decide +kernel⟩
theorem sl_wseq_other (P : Params) (L : Addr) : Slot (callEnv (fdOf P 100) L 100) L vs_wseq (Str.ofString "other") 1 := ⟨by kernel_rfl, rfl, by kernel_rfl, by kernel_rfl, by decide +kernel⟩
theorem fn_wseq (P : Params) (a0 a1 : Value) : FnOk P 100 [Str.ofString "self", Str.ofString "other"] [a0, a1] := ⟨by kernel_rfl, by kernel_rfl, by kernel_rfl, by kernel_rfl, by kernel_rfl, rfl, by decide +kernel, by kernel_rfl, by kernel_rfl, by kernel_rfl, by kernel_rfl, by kernel_rfl⟩
abbrev vs_wswit : List Str := [Str.ofString "self", Str.ofString "other", Str.ofString "n", Str.ofString "a", Str.ofString "ts"]
abbrev rs_wswit : List Str := [Str.ofString "n", Str.ofString "a", Str.ofString "ts"]
theorem sl_wswit_self (P : Params) (L : Addr) : Slot (callEnv (fdOf P 107) L 107) L vs_wswit (Str.ofString "self") 0 := ⟨by kernel_rfl, rfl, by kernel_rfl, by kernel_rfl, by decide +kernel⟩
theorem sl_wswit_other (P : Params) (L : Addr) : Slot (callEnv (fdOf P 107) L 107) L vs_wswit (Str.ofString "other") 1 := ⟨by kernel_rfl, rfl, by kernel_rfl, by kernel_rfl, by decide +kernel⟩
theorem sl_wswit_n (P : Params) (L : Addr) : Slot (callEnv (fdOf P 107) L 107) L vs_wswit (Str.ofString "n") 2 := ⟨by kernel_rfl, rfl, by kernel_rfl, by kernel_rfl, by decide +kernel⟩
theorem sl_wswit_a (P : Params) (L : Addr) : Slot (callEnv (fdOf P 107) L 107) L vs_wswit (Str.ofString "a") 3 := ⟨by kernel_rfl, rfl, by kernel_rfl, by kernel_rfl, by decide +kernel⟩
theorem sl_wswit_ts (P : Params) (L : Addr) : Slot (callEnv (fdOf P 107) L 107) L vs_wswit (Str.ofString "ts") 4 := ⟨by kernel_rfl, rfl, by kernel_rfl, by kernel_rfl, by decide +kernel⟩
theorem fn_wswit (P : Params) (a0 a1 : Value) : FnOk P 107 [Str.ofString "self", Str.ofString "other"] [a0, a1] := ⟨by kernel_rfl, by kernel_rfl, by kernel_rfl, by kernel_rfl, by kernel_rfl, rfl, by decide +kernel, by kernel_rfl, by kernel_rfl, by kernel_rfl, by kernel_rfl, by kernel_rfl⟩
abbrev vs_wsless : List Str := [Str.ofString "self", Str.ofString "other", Str.ofString "n", Str.ofString "ts"]
abbrev rs_wsless : List Str := [Str.ofString "n", Str.ofString "ts"]
theorem sl_wsless_self (P : Params) (L : Addr) : Slot (callEnv (fdOf P 114) L 114) L vs_wsless (Str.ofString "self") 0 := ⟨by kernel_rfl, rfl, by kernel_rfl, by kernel_rfl, by decide +kernel⟩
theorem sl_wsless_other (P : Params) (L : Addr) : Slot (callEnv (fdOf P 114) L 114) L vs_wsless (Str.ofString "other") 1 := ⟨by kernel_rfl, rfl, by kernel_rfl, by kernel_rfl, by decide +kernel⟩
theorem sl_wsless_n (P : Params) (L : Addr) : Slot (callEnv (fdOf P 114) L 114) L vs_wsless (Str.ofString "n") 2 := ⟨by kernel_rfl, rfl, by kernel_rfl, by kernel_rfl, by decide +kernel⟩
theorem sl_wsless_ts (P : Params) (L : Addr) : Slot (callEnv (fdOf P 114) L 114) L vs_wsless (Str.ofString "ts") 3 := ⟨by kernel_rfl, rfl, by kernel_rfl, by kernel_rfl, by decide +kernel⟩
theorem fn_wsless (P : Params) (a0 a1 : Value) : FnOk P 114 [Str.ofString "self", Str.ofString "other"] [a0, a1] := ⟨by kernel_rfl, by kernel_rfl, by kernel_rfl, by kernel_rfl, by kernel_rfl, rfl, by decide +kernel, by kernel_rfl, by kernel_rfl, by kernel_rfl, by kernel_rfl, by kernel_rfl⟩
abbrev vs_fmt : List Str := [Str.ofString "w", Str.ofString "firsts", Str.ofString "prefix"]
abbrev rs_fmt : List Str := [Str.ofString "firsts", Str.ofString "prefix"]
theorem sl_fmt_w (P : Params) (L : Addr) : Slot (callEnv (fdOf P 135) L 135) L vs_fmt (Str.ofString "w") 0 := ⟨by kernel_rfl, rfl, by kernel_rfl, by kernel_rfl, by decide +kernel⟩
theorem sl_fmt_firsts (P : Params) (L : Addr) : Slot (callEnv (fdOf P 135) L 135) L vs_fmt (Str.ofString "firsts") 1 := ⟨by kernel_rfl, rfl, by kernel_rfl, by kernel_rfl, by decide +kernel⟩
theorem sl_fmt_prefix (P : Params) (L : Addr) : Slot (callEnv (fdOf P 135) L 135) L vs_fmt (Str.ofString "prefix") 2 := ⟨by kernel_rfl, rfl, by kernel_rfl, by kernel_rfl, by decide +kernel⟩
theorem fn_fmt (P : Params) (a0 : Value) : FnOk P 135 [Str.ofString "w"] [a0] := ⟨by kernel_rfl, by kernel_rfl, by kernel_rfl, by kernel_rfl, by kernel_rfl, rfl, by decide +kernel, by kernel_rfl, by kernel_rfl, by kernel_rfl, by kernel_rfl, by kernel_rfl⟩
abbrev vs_ecd : List Str := [Str.ofString "text"]
abbrev rs_ecd : List Str := []
theorem sl_ecd_text (P : Params) (L : Addr) : Slot (callEnv (fdOf P 149) L 149) L vs_ecd (Str.ofString "text") 0 := ⟨by kernel_rfl, rfl, by kernel_rfl, by kernel_rfl, by decide +kernel⟩
theorem fn_ecd (P : Params) (a0 : Value) : FnOk P 149 [Str.ofString "text"] [a0] := ⟨by kernel_rfl, by kernel_rfl, by kernel_rfl, by kernel_rfl, by kernel_rfl, rfl, by decide +kernel, by kernel_rfl, by kernel_rfl, by kernel_rfl, by kernel_rfl, by kernel_rfl⟩
abbrev vs_eat : List Str := [Str.ofString "text"]
abbrev rs_eat : List Str := []
theorem sl_eat_text (P : Params) (L : Addr) : Slot (callEnv (fdOf P 156) L 156) L vs_eat (Str.ofString "text") 0 := ⟨by kernel_rfl, rfl, by kernel_rfl, by kernel_rfl, by decide +kernel⟩
theorem fn_eat (P : Params) (a0 : Value) : FnOk P 156 [Str.ofString "text"] [a0] := ⟨by kernel_rfl, by kernel_rfl, by kernel_rfl, by kernel_rfl, by kernel_rfl, rfl, by decide +kernel, by kernel_rfl, by kernel_rfl, by kernel_rfl, by kernel_rfl, by kernel_rfl⟩
abbrev vs_eah : List Str := [Str.ofString "text"]
abbrev rs_eah : List Str := []
theorem sl_eah_text (P : Params) (L : Addr) : Slot (callEnv (fdOf P 163) L 163) L vs_eah (Str.ofString "text") 0 := ⟨by kernel_rfl, rfl, by kernel_rfl, by kernel_rfl, by decide +kernel⟩
theorem fn_eah (P : Params) (a0 : Value) : FnOk P 163 [Str.ofString "text"] [a0] := ⟨by kernel_rfl, by kernel_rfl, by kernel_rfl, by kernel_rfl, by kernel_rfl, rfl, by decide +kernel, by kernel_rfl, by kernel_rfl, by kernel_rfl, by kernel_rfl, by kernel_rfl⟩
abbrev vs_ecc : List Str := [Str.ofString "text"]
abbrev rs_ecc : List Str := []
theorem sl_ecc_text (P : Params) (L : Addr) : Slot (callEnv (fdOf P 170) L 170) L vs_ecc (Str.ofString "text") 0 := ⟨by kernel_rfl, rfl, by kernel_rfl, by kernel_rfl, by decide +kernel⟩
theorem fn_ecc (P : Params) (a0 : Value) : FnOk P 170 [Str.ofString "text"] [a0] := ⟨by kernel_rfl, by kernel_rfl, by kernel_rfl, by kernel_rfl, by kernel_rfl, rfl, by decide +kernel, by kernel_rfl, by kernel_rfl, by kernel_rfl, by kernel_rfl, by kernel_rfl⟩
abbrev vs_eac : List Str := [Str.ofString "text"]
abbrev rs_eac : List Str := []
theorem sl_eac_text (P : Params) (L : Addr) : Slot (callEnv (fdOf P 177) L 177) L vs_eac (Str.ofString "text") 0 := ⟨by kernel_rfl, rfl, by kernel_rfl, by kernel_rfl, by decide +kernel⟩
theorem fn_eac (P : Params) (a0 : Value) : FnOk P 177 [Str.ofString "text"] [a0] := ⟨by kernel_rfl, by kernel_rfl, by kernel_rfl, by kernel_rfl, by kernel_rfl, rfl, by decide +kernel, by kernel_rfl, by kernel_rfl, by kernel_rfl, by kernel_rfl, by kernel_rfl⟩
abbrev vs_write : List Str := [Str.ofString "hand", Str.ofString "text"]
abbrev rs_write : List Str := []
theorem sl_write_hand (P : Params) (L : Addr) : Slot (callEnv (fdOf P 184) L 184) L vs_write (Str.ofString "hand") 0 := ⟨by kernel_rfl, rfl, by kernel_rfl, by kernel_rfl, by decide +kernel⟩
theorem sl_write_text (P : Params) (L : Addr) : Slot (callEnv (fdOf P 184) L 184) L vs_write (Str.ofString "text") 1 := ⟨by kernel_rfl, rfl, by kernel_rfl, by kernel_rfl, by decide +kernel⟩
theorem fn_write (P : Params) (a0 a1 : Value) : FnOk P 184 [Str.ofString "hand", Str.ofString "text"] [a0, a1] := ⟨by kernel_rfl, by kernel_rfl, by kernel_rfl, by kernel_rfl, by kernel_rfl, rfl, by decide +kernel, by kernel_rfl, by kernel_rfl, by kernel_rfl, by kernel_rfl, by kernel_rfl⟩
abbrev vs_kept : List Str := [Str.ofString "hand"]
abbrev rs_kept : List Str := []
theorem sl_kept_hand (P : Params) (L : Addr) : Slot (callEnv (fdOf P 191) L 191) L vs_kept (Str.ofString "hand") 0 := ⟨by kernel_rfl, rfl, by kernel_rfl, by kernel_rfl, by decide +kernel⟩
theorem fn_kept (P : Params) (a0 : Value) : FnOk P 191 [Str.ofString "hand"] [a0] := ⟨by kernel_rfl, by kernel_rfl, by kernel_rfl, by kernel_rfl, by kernel_rfl, rfl, by decide +kernel, by kernel_rfl, by kernel_rfl, by kernel_rfl, by kernel_rfl, by kernel_rfl⟩
abbrev vs_read : List Str := [Str.ofString "written", Str.ofString "inside", Str.ofString "text", Str.ofString "signs", Str.ofString "parts", Str.ofString "read", Str.ofString "part", Str.ofString "end"]
abbrev rs_read : List Str := [Str.ofString "text", Str.ofString "signs", Str.ofString "parts", Str.ofString "read", Str.ofString "part", Str.ofString "end"]
theorem sl_read_written (P : Params) (L : Addr) : Slot (callEnv (fdOf P 198) L 198) L vs_read (Str.ofString "written") 0 := ⟨by kernel_rfl, rfl, by kernel_rfl, by kernel_rfl, by decide +kernel⟩
theorem sl_read_inside (P : Params) (L : Addr) : Slot (callEnv (fdOf P 198) L 198) L vs_read (Str.ofString "inside") 1 := ⟨by kernel_rfl, rfl, by kernel_rfl, by kernel_rfl, by decide +kernel⟩
theorem sl_read_text (P : Params) (L : Addr) : Slot (callEnv (fdOf P 198) L 198) L vs_read (Str.ofString "text") 2 := ⟨by kernel_rfl, rfl, by kernel_rfl, by kernel_rfl, by decide +kernel⟩
theorem sl_read_signs (P : Params) (L : Addr) : Slot (callEnv (fdOf P 198) L 198) L vs_read (Str.ofString "signs") 3 := ⟨by kernel_rfl, rfl, by kernel_rfl, by kernel_rfl, by decide +kernel⟩
theorem sl_read_parts (P : Params) (L : Addr) : Slot (callEnv (fdOf P 198) L 198) L vs_read (Str.ofString "parts") 4 := ⟨by kernel_rfl, rfl, by kernel_rfl, by kernel_rfl, by decide +kernel⟩
theorem sl_read_read (P : Params) (L : Addr) : Slot (callEnv (fdOf P 198) L 198) L vs_read (Str.ofString "read") 5 := ⟨by kernel_rfl, rfl, by kernel_rfl, by kernel_rfl, by decide +kernel⟩
theorem sl_read_part (P : Params) (L : Addr) : Slot (callEnv (fdOf P 198) L 198) L vs_read (Str.ofString "part") 6 := ⟨by kernel_rfl, rfl, by kernel_rfl, by kernel_rfl, by decide +kernel⟩
theorem sl_read_end (P : Params) (L : Addr) : Slot (callEnv (fdOf P 198) L 198) L vs_read (Str.ofString "end") 7 := ⟨by kernel_rfl, rfl, by kernel_rfl, by kernel_rfl, by decide +kernel⟩
theorem fn_read (P : Params) (a0 a1 : Value) : FnOk P 198 [Str.ofString "written", Str.ofString "inside"] [a0, a1] := ⟨by kernel_rfl, by kernel_rfl, by kernel_rfl, by kernel_rfl, by kernel_rfl, rfl, by decide +kernel, by kernel_rfl, by kernel_rfl, by kernel_rfl, by kernel_rfl, by kernel_rfl⟩
abbrev vs_carried : List Str := [Str.ofString "page", Str.ofString "safe", Str.ofString "inside", Str.ofString "out", Str.ofString "behind", Str.ofString "sign"]
abbrev rs_carried : List Str := [Str.ofString "out", Str.ofString "behind", Str.ofString "sign"]
theorem sl_carried_page (P : Params) (L : Addr) : Slot (callEnv (fdOf P 205) L 205) L vs_carried (Str.ofString "page") 0 := ⟨by kernel_rfl, rfl, by kernel_rfl, by kernel_rfl, by decide +kernel⟩
theorem sl_carried_safe (P : Params) (L : Addr) : Slot (callEnv (fdOf P 205) L 205) L vs_carried (Str.ofString "safe") 1 := ⟨by kernel_rfl, rfl, by kernel_rfl, by kernel_rfl, by decide +kernel⟩
theorem sl_carried_inside (P : Params) (L : Addr) : Slot (callEnv (fdOf P 205) L 205) L vs_carried (Str.ofString "inside") 2 := ⟨by kernel_rfl, rfl, by kernel_rfl, by kernel_rfl, by decide +kernel⟩
theorem sl_carried_out (P : Params) (L : Addr) : Slot (callEnv (fdOf P 205) L 205) L vs_carried (Str.ofString "out") 3 := ⟨by kernel_rfl, rfl, by kernel_rfl, by kernel_rfl, by decide +kernel⟩
theorem sl_carried_behind (P : Params) (L : Addr) : Slot (callEnv (fdOf P 205) L 205) L vs_carried (Str.ofString "behind") 4 := ⟨by kernel_rfl, rfl, by kernel_rfl, by kernel_rfl, by decide +kernel⟩
theorem sl_carried_sign (P : Params) (L : Addr) : Slot (callEnv (fdOf P 205) L 205) L vs_carried (Str.ofString "sign") 5 := ⟨by kernel_rfl, rfl, by kernel_rfl, by kernel_rfl, by decide +kernel⟩
theorem fn_carried (P : Params) (a0 a1 a2 : Value) : FnOk P 205 [Str.ofString "page", Str.ofString "safe", Str.ofString "inside"] [a0, a1, a2] := ⟨by kernel_rfl, by kernel_rfl, by kernel_rfl, by kernel_rfl, by kernel_rfl, rfl, by decide +kernel, by kernel_rfl, by kernel_rfl, by kernel_rfl, by kernel_rfl, by kernel_rfl⟩
abbrev vs_lines : List Str := [Str.ofString "page", Str.ofString "rows", Str.ofString "tops", Str.ofString "lines", Str.ofString "k", Str.ofString "lead", Str.ofString "words"]
abbrev rs_lines : List Str := [Str.ofString "tops", Str.ofString "lines", Str.ofString "k", Str.ofString "lead", Str.ofString "words"]
theorem sl_lines_page (P : Params) (L : Addr) : Slot (callEnv (fdOf P 212) L 212) L vs_lines (Str.ofString "page") 0 := ⟨by kernel_rfl, rfl, by kernel_rfl, by kernel_rfl, by decide +kernel⟩
theorem sl_lines_rows (P : Params) (L : Addr) : Slot (callEnv (fdOf P 212) L 212) L vs_lines (Str.ofString "rows") 1 := ⟨by kernel_rfl, rfl, by kernel_rfl, by kernel_rfl, by decide +kernel⟩
theorem sl_lines_tops (P : Params) (L : Addr) : Slot (callEnv (fdOf P 212) L 212) L vs_lines (Str.ofString "tops") 2 := ⟨by kernel_rfl, rfl, by kernel_rfl, by kernel_rfl, by decide +kernel⟩
theorem sl_lines_lines (P : Params) (L : Addr) : Slot (callEnv (fdOf P 212) L 212) L vs_lines (Str.ofString "lines") 3 := ⟨by kernel_rfl, rfl, by kernel_rfl, by kernel_rfl, by decide +kernel⟩
theorem sl_lines_k (P : Params) (L : Addr) : Slot (callEnv (fdOf P 212) L 212) L vs_lines (Str.ofString "k") 4 := ⟨by kernel_rfl, rfl, by kernel_rfl, by kernel_rfl, by decide +kernel⟩
theorem sl_lines_lead (P : Params) (L : Addr) : Slot (callEnv (fdOf P 212) L 212) L vs_lines (Str.ofString "lead") 5 := ⟨by kernel_rfl, rfl, by kernel_rfl, by kernel_rfl, by decide +kernel⟩
theorem sl_lines_words (P : Params) (L : Addr) : Slot (callEnv (fdOf P 212) L 212) L vs_lines (Str.ofString "words") 6 := ⟨by kernel_rfl, rfl, by kernel_rfl, by kernel_rfl, by decide +kernel⟩
theorem fn_lines (P : Params) (a0 a1 : Value) : FnOk P 212 [Str.ofString "page", Str.ofString "rows"] [a0, a1] := ⟨by kernel_rfl, by kernel_rfl, by kernel_rfl, by kernel_rfl, by kernel_rfl, rfl, by decide +kernel, by kernel_rfl, by kernel_rfl, by kernel_rfl, by kernel_rfl, by kernel_rfl⟩
abbrev vs_outline : List Str := [Str.ofString "page", Str.ofString "rows", Str.ofString "nag"]
abbrev rs_outline : List Str := [Str.ofString "rows", Str.ofString "nag"]
theorem sl_outline_page (P : Params) (L : Addr) : Slot (callEnv (fdOf P 219) L 219) L vs_outline (Str.ofString "page") 0 := ⟨by kernel_rfl, rfl, by kernel_rfl, by kernel_rfl, by decide +kernel⟩
theorem sl_outline_rows (P : Params) (L : Addr) : Slot (callEnv (fdOf P 219) L 219) L vs_outline (Str.ofString "rows") 1 := ⟨by kernel_rfl, rfl, by kernel_rfl, by kernel_rfl, by decide +kernel⟩
theorem sl_outline_nag (P : Params) (L : Addr) : Slot (callEnv (fdOf P 219) L 219) L vs_outline (Str.ofString "nag") 2 := ⟨by kernel_rfl, rfl, by kernel_rfl, by kernel_rfl, by decide +kernel⟩
theorem fn_outline (P : Params) (a0 : Value) : FnOk P 219 [Str.ofString "page"] [a0] := ⟨by kernel_rfl, by kernel_rfl, by kernel_rfl, by kernel_rfl, by kernel_rfl, rfl, by decide +kernel, by kernel_rfl, by kernel_rfl, by kernel_rfl, by kernel_rfl, by kernel_rfl⟩
abbrev vs_column : List Str := [Str.ofString "lead", Str.ofString "size", Str.ofString "column", Str.ofString "sign"]
abbrev rs_column : List Str := [Str.ofString "column", Str.ofString "sign"]
theorem sl_column_lead (P : Params) (L : Addr) : Slot (callEnv (fdOf P 226) L 226) L vs_column (Str.ofString "lead") 0 := ⟨by kernel_rfl, rfl, by kernel_rfl, by kernel_rfl, by decide +kernel⟩
theorem sl_column_size (P : Params) (L : Addr) : Slot (callEnv (fdOf P 226) L 226) L vs_column (Str.ofString "size") 1 := ⟨by kernel_rfl, rfl, by kernel_rfl, by kernel_rfl, by decide +kernel⟩
theorem sl_column_column (P : Params) (L : Addr) : Slot (callEnv (fdOf P 226) L 226) L vs_column (Str.ofString "column") 2 := ⟨by kernel_rfl, rfl, by kernel_rfl, by kernel_rfl, by decide +kernel⟩
theorem sl_column_sign (P : Params) (L : Addr) : Slot (callEnv (fdOf P 226) L 226) L vs_column (Str.ofString "sign") 3 := ⟨by kernel_rfl, rfl, by kernel_rfl, by kernel_rfl, by decide +kernel⟩
theorem fn_column (P : Params) (a0 a1 : Value) : FnOk P 226 [Str.ofString "lead", Str.ofString "size"] [a0, a1] := ⟨by kernel_rfl, by kernel_rfl, by kernel_rfl, by kernel_rfl, by kernel_rfl, rfl, by decide +kernel, by kernel_rfl, by kernel_rfl, by kernel_rfl, by kernel_rfl, by kernel_rfl⟩
abbrev vs_due : List Str := [Str.ofString "page", Str.ofString "tops", Str.ofString "rows", Str.ofString "lines", Str.ofString "k", Str.ofString "wide", Str.ofString "lead", Str.ofString "told", Str.ofString "uneven", Str.ofString "words"]
abbrev rs_due : List Str := [Str.ofString "tops", Str.ofString "rows", Str.ofString "lines", Str.ofString "k", Str.ofString "wide", Str.ofString "lead", Str.ofString "told", Str.ofString "uneven", Str.ofString "words"]
theorem sl_due_page (P : Params) (L : Addr) : Slot (callEnv (fdOf P 236) L 236) L vs_due (Str.ofString "page") 0 := ⟨by kernel_rfl, rfl, by kernel_rfl, by kernel_rfl, by decide +kernel⟩
theorem sl_due_tops (P : Params) (L : Addr) : Slot (callEnv (fdOf P 236) L 236) L vs_due (Str.ofString "tops") 1 := ⟨by kernel_rfl, rfl, by kernel_rfl, by kernel_rfl, by decide +kernel⟩
theorem sl_due_rows (P : Params) (L : Addr) : Slot (callEnv (fdOf P 236) L 236) L vs_due (Str.ofString "rows") 2 := ⟨by kernel_rfl, rfl, by kernel_rfl, by kernel_rfl, by decide +kernel⟩
theorem sl_due_lines (P : Params) (L : Addr) : Slot (callEnv (fdOf P 236) L 236) L vs_due (Str.ofString "lines") 3 := ⟨by kernel_rfl, rfl, by kernel_rfl, by kernel_rfl, by decide +kernel⟩
theorem sl_due_k (P : Params) (L : Addr) : Slot (callEnv (fdOf P 236) L 236) L vs_due (Str.ofString "k") 4 := ⟨by kernel_rfl, rfl, by kernel_rfl, by kernel_rfl, by decide +kernel⟩
theorem sl_due_wide (P : Params) (L : Addr) : Slot (callEnv (fdOf P 236) L 236) L vs_due (Str.ofString "wide") 5 := ⟨by kernel_rfl, rfl, by kernel_rfl, by kernel_rfl, by decide +kernel⟩
theorem sl_due_lead (P : Params) (L : Addr) : Slot (callEnv (fdOf P 236) L 236) L vs_due (Str.ofString "lead") 6 := ⟨by kernel_rfl, rfl, by kernel_rfl, by kernel_rfl, by decide +kernel⟩
theorem sl_due_told (P : Params) (L : Addr) : Slot (callEnv (fdOf P 236) L 236) L vs_due (Str.ofString "told") 7 := ⟨by kernel_rfl, rfl, by kernel_rfl, by kernel_rfl, by decide +kernel⟩
theorem sl_due_uneven (P : Params) (L : Addr) : Slot (callEnv (fdOf P 236) L 236) L vs_due (Str.ofString "uneven") 8 := ⟨by kernel_rfl, rfl, by kernel_rfl, by kernel_rfl, by decide +kernel⟩
theorem sl_due_words (P : Params) (L : Addr) : Slot (callEnv (fdOf P 236) L 236) L vs_due (Str.ofString "words") 9 := ⟨by kernel_rfl, rfl, by kernel_rfl, by kernel_rfl, by decide +kernel⟩
theorem fn_due (P : Params) (a0 : Value) : FnOk P 236 [Str.ofString "page"] [a0] := ⟨by kernel_rfl, by kernel_rfl, by kernel_rfl, by kernel_rfl, by kernel_rfl, rfl, by decide +kernel, by kernel_rfl, by kernel_rfl, by kernel_rfl, by kernel_rfl, by kernel_rfl⟩
abbrev vs_law : List Str := [Str.ofString "script", Str.ofString "draws", Str.ofString "total", Str.ofString "page", Str.ofString "end", Str.ofString "x", Str.ofString "hand", Str.ofString "outer", Str.ofString "place", Str.ofString "around", Str.ofString "written", Str.ofString "kept", Str.ofString "twice", Str.ofString "due"]
abbrev rs_law : List Str := [Str.ofString "draws", Str.ofString "total", Str.ofString "page", Str.ofString "end", Str.ofString "x", Str.ofString "hand", Str.ofString "outer", Str.ofString "place", Str.ofString "around", Str.ofString "written", Str.ofString "kept", Str.ofString "twice", Str.ofString "due"]
theorem sl_law_script (P : Params) (L : Addr) : Slot (callEnv (fdOf P 241) L 241) L vs_law (Str.ofString "script") 0 := ⟨by kernel_rfl, rfl, by kernel_rfl, by kernel_rfl, by decide +kernel⟩
theorem sl_law_draws (P : Params) (L : Addr) : Slot (callEnv (fdOf P 241) L 241) L vs_law (Str.ofString "draws") 1 := ⟨by kernel_rfl, rfl, by kernel_rfl, by kernel_rfl, by decide +kernel⟩
theorem sl_law_total (P : Params) (L : Addr) : Slot (callEnv (fdOf P 241) L 241) L vs_law (Str.ofString "total") 2 := ⟨by kernel_rfl, rfl, by kernel_rfl, by kernel_rfl, by decide +kernel⟩
theorem sl_law_page (P : Params) (L : Addr) : Slot (callEnv (fdOf P 241) L 241) L vs_law (Str.ofString "page") 3 := ⟨by kernel_rfl, rfl, by kernel_rfl, by kernel_rfl, by decide +kernel⟩
theorem sl_law_end (P : Params) (L : Addr) : Slot (callEnv (fdOf P 241) L 241) L vs_law (Str.ofString "end") 4 := ⟨by kernel_rfl, rfl, by kernel_rfl, by kernel_rfl, by decide +kernel⟩
theorem sl_law_x (P : Params) (L : Addr) : Slot (callEnv (fdOf P 241) L 241) L vs_law (Str.ofString "x") 5 := ⟨by kernel_rfl, rfl, by kernel_rfl, by kernel_rfl, by decide +kernel⟩
theorem sl_law_hand (P : Params) (L : Addr) : Slot (callEnv (fdOf P 241) L 241) L vs_law (Str.ofString "hand") 6 := ⟨by kernel_rfl, rfl, by kernel_rfl, by kernel_rfl, by decide +kernel⟩
theorem sl_law_outer (P : Params) (L : Addr) : Slot (callEnv (fdOf P 241) L 241) L vs_law (Str.ofString "outer") 7 := ⟨by kernel_rfl, rfl, by kernel_rfl, by kernel_rfl, by decide +kernel⟩
theorem sl_law_place (P : Params) (L : Addr) : Slot (callEnv (fdOf P 241) L 241) L vs_law (Str.ofString "place") 8 := ⟨by kernel_rfl, rfl, by kernel_rfl, by kernel_rfl, by decide +kernel⟩
theorem sl_law_around (P : Params) (L : Addr) : Slot (callEnv (fdOf P 241) L 241) L vs_law (Str.ofString "around") 9 := ⟨by kernel_rfl, rfl, by kernel_rfl, by kernel_rfl, by decide +kernel⟩
theorem sl_law_written (P : Params) (L : Addr) : Slot (callEnv (fdOf P 241) L 241) L vs_law (Str.ofString "written") 10 := ⟨by kernel_rfl, rfl, by kernel_rfl, by kernel_rfl, by decide +kernel⟩
theorem sl_law_kept (P : Params) (L : Addr) : Slot (callEnv (fdOf P 241) L 241) L vs_law (Str.ofString "kept") 11 := ⟨by kernel_rfl, rfl, by kernel_rfl, by kernel_rfl, by decide +kernel⟩
theorem sl_law_twice (P : Params) (L : Addr) : Slot (callEnv (fdOf P 241) L 241) L vs_law (Str.ofString "twice") 12 := ⟨by kernel_rfl, rfl, by kernel_rfl, by kernel_rfl, by decide +kernel⟩
theorem sl_law_due (P : Params) (L : Addr) : Slot (callEnv (fdOf P 241) L 241) L vs_law (Str.ofString "due") 13 := ⟨by kernel_rfl, rfl, by kernel_rfl, by kernel_rfl, by decide +kernel⟩
theorem fn_law (P : Params) (a0 : Value) : FnOk P 241 [Str.ofString "script"] [a0] := ⟨by kernel_rfl, by kernel_rfl, by kernel_rfl, by kernel_rfl, by kernel_rfl, rfl, by decide +kernel, by kernel_rfl, by kernel_rfl, by kernel_rfl, by kernel_rfl, by kernel_rfl⟩
def GName (P : Params) (x : Str) (v : Value) : Prop := nsIn (KF P) mainGlobals x = some (some v)
def BName (P : Params) (x : Str) (v : Value) : Prop := nsIn (KF P) mainGlobals x = some none ∧ bootBuiltins x = some v ∧ x ≠ "__name__" ∧ (x == ("__debug__" : Str)) = false
theorem gl_NannyNag (P : Params) : GName P (Str.ofString "NannyNag") (.ref 59) := by unfold GName; kernel_rfl
theorem gl_Whitespace (P : Params) : GName P (Str.ofString "Whitespace") (.ref 124) := by unfold GName; kernel_rfl
theorem gl_format_witnesses (P : Params) : GName P (Str.ofString "format_witnesses") (.ref 135) := by unfold GName; kernel_rfl
theorem gl_escape_cdata (P : Params) : GName P (Str.ofString "_escape_cdata") (.ref 149) := by unfold GName; kernel_rfl
theorem gl_escape_attrib (P : Params) : GName P (Str.ofString "_escape_attrib") (.ref 156) := by unfold GName; kernel_rfl
theorem gl_escape_attrib_html (P : Params) : GName P (Str.ofString "_escape_attrib_html") (.ref 163) := by unfold GName; kernel_rfl
theorem gl_escape_cdata_c14n (P : Params) : GName P (Str.ofString "_escape_cdata_c14n") (.ref 170) := by unfold GName; kernel_rfl
theorem gl_escape_attrib_c14n (P : Params) : GName P (Str.ofString "_escape_attrib_c14n") (.ref 177) := by unfold GName; kernel_rfl
theorem gl_law_write (P : Params) : GName P (Str.ofString "_law_write") (.ref 184) := by unfold GName; kernel_rfl
theorem gl_law_kept (P : Params) : GName P (Str.ofString "_law_kept") (.ref 191) := by unfold GName; kernel_rfl
theorem gl_law_read (P : Params) : GName P (Str.ofString "_law_read") (.ref 198) := by unfold GName; kernel_rfl
theorem gl_law_carried (P : Params) : GName P (Str.ofString "_law_carried") (.ref 205) := by unfold GName; kernel_rfl
theorem gl_law_read_lines (P : Params) : GName P (Str.ofString "_law_read_lines") (.ref 212) := by unfold GName; kernel_rfl
theorem gl_law_outline (P : Params) : GName P (Str.ofString "_law_outline") (.ref 219) := by unfold GName; kernel_rfl
theorem gl_law_column (P : Params) : GName P (Str.ofString "_law_column") (.ref 226) := by unfold GName; kernel_rfl
theorem gl_law_apart (P : Params) : GName P (Str.ofString "_law_apart") (.ref 231) := by unfold GName; kernel_rfl
theorem gl_law_due (P : Params) : GName P (Str.ofString "_law_due") (.ref 236) := by unfold GName; kernel_rfl
theorem bl_len (P : Params) : BName P (Str.ofString "len") (.builtin "len") := ⟨by kernel_rfl, by kernel_rfl, by decide +kernel, by decide +kernel⟩
theorem bl_max (P : Params) : BName P (Str.ofString "max") (.builtin "max") := ⟨by kernel_rfl, by kernel_rfl, by decide +kernel, by decide +kernel⟩
theorem bl_range (P : Params) : BName P (Str.ofString "range") (.type "range") := ⟨by kernel_rfl, by kernel_rfl, by decide +kernel, by decide +kernel⟩
theorem bl_str (P : Params) : BName P (Str.ofString "str") (.type "str") := ⟨by kernel_rfl, by kernel_rfl, by decide +kernel, by decide +kernel⟩
theorem bl_tuple (P : Params) : BName P (Str.ofString "tuple") (.type "tuple") := ⟨by kernel_rfl, by kernel_rfl, by decide +kernel, by decide +kernel⟩
theorem bl_sum (P : Params) : BName P (Str.ofString "sum") (.builtin "sum") := ⟨by kernel_rfl, by kernel_rfl, by decide +kernel, by decide +kernel⟩
section
variable {M : Model} {w : World} {A : Around} {E : Value → Shared → Prop} {s : Shared} {h₀ : Heap} {os : OsG} {L : Addr} {vs : List Str} {l : List (Option Value)} {led : List (Addr × Obj)} {env : Env}
theorem nmG' {x : Str} {pos : Pos} {v : Value} {Q : Value → Shared → Prop} (G : Gnd w h₀) (S : St h₀ os L vs l led s) (e : GName w.params x v) (fn : env.scope.kind = .function) (gl : env.globals = mainGlobals)
    (hx : env.kindOf x = some .globalImplicit) (hd : (x == ("__debug__" : Str)) = false) (h : Q v s) : wpAny M A (eval (.Name x pos) env) Q E s := nmG G S fn gl e hx hd h
theorem nmB' {x : Str} {pos : Pos} {v : Value} {Q : Value → Shared → Prop} (G : Gnd w h₀) (S : St h₀ os L vs l led s) (e : BName w.params x v) (fn : env.scope.kind = .function) (gl : env.globals = mainGlobals) (bl : env.builtins = builtinsNs)
    (hx : env.kindOf x = some .globalImplicit) (h : Q v s) : wpAny M A (eval (.Name x pos) env) Q E s := nmB G S fn gl bl e.1 e.2.1 e.2.2.1 hx e.2.2.2 h
end
end
section
open PySem PySem.W PySem.Calls PyProof.Rows PySem.Spec PyProof.V
set_option maxRecDepth 100000
set_option linter.unusedVariables false

section
variable {w : World} {A : Around} {E : Value → Shared → Prop} {s : Shared} {h₀ : Heap} {os : OsG} {L : Addr} {vs : List Str} {l : List (Option Value)} {led : List (Addr × Obj)} {env : Env}

theorem seqJ {M : Model} {st : Stmt} {rest : List Stmt} {Q : Flow → Shared → Prop} (P : Shared → Prop) (h : wpAny M A (exec st env) (fun f s' => f = .next ∧ P s') E s) (k : ∀ s', P s' → wpAny M A (execs rest env) Q E s') :
    wpAny M A (execs (st :: rest) env) Q E s :=
  seqI (wpAny_mono h (fun f s' x => by obtain ⟨rfl, hp⟩ := x; exact thenN (k s' hp)) fun _ _ e => e)

theorem subNS {M : Model} {value hi : Expr} {p pos : Pos} {Q : Value → Shared → Prop}
    (h : wpAny M A (eval value env) (fun o s₁ => wpAny M A (eval hi env) (fun u s₂ => wpAny M A (subscriptTail value (.Slice none (some hi) none p) o (.ref s₂.heap.objs.size)) Q E { s₂ with heap := s₂.heap.push { cls := .type "slice", data := .fields #[.none, u, .none] } }) E s₁) E s) :
    wpAny M A (eval (.Subscript value (.Slice none (some hi) none p) pos) env) Q E s :=
  Subscript_ (wpAny_mono h (fun o s₁ h₁ => wpAny_Slice (wpAny_pure (wpAny_mono h₁ (fun u s₂ h₂ => wpAny_pure h₂) fun _ _ e => e))) fun _ _ e => e)
theorem subSN {M : Model} {value lo : Expr} {p pos : Pos} {Q : Value → Shared → Prop}
    (h : wpAny M A (eval value env) (fun o s₁ => wpAny M A (eval lo env) (fun u s₂ => wpAny M A (subscriptTail value (.Slice (some lo) none none p) o (.ref s₂.heap.objs.size)) Q E { s₂ with heap := s₂.heap.push { cls := .type "slice", data := .fields #[u, .none, .none] } }) E s₁) E s) :
    wpAny M A (eval (.Subscript value (.Slice (some lo) none none p) pos) env) Q E s :=
  Subscript_ (wpAny_mono h (fun o s₁ h₁ => wpAny_Slice (wpAny_mono h₁ (fun u s₂ h₂ => wpAny_pure (wpAny_pure h₂)) fun _ _ e => e)) fun _ _ e => e)

theorem sTailNS {value slice : Expr} {x : Str} {t uj : Tok} {j : Int} {Q : Value → Shared → Prop} (S : St h₀ os L vs l led s)
    (hs : subscripted slice false (.str x t) (.ref s.heap.objs.size) = operate [.ref s.heap.objs.size, .str x t] (getItem (.str x t) (.ref s.heap.objs.size)))
    (ht : ∀ r, letTemporaryGo value (.str x t) r = pure ()) (hsz : x.length ≤ sizeLine) (h : ∀ t' s', St h₀ os L vs l led s' → Q (.str (Txt.slice x none (some j)) t') s') :
    wpAny (model pw w) A (subscriptTail value slice (.str x t) (.ref s.heap.objs.size)) Q E { s with heap := s.heap.push { cls := .type "slice", data := .fields #[.none, .int j uj, .none] } } :=
  wpAny_with_toks (n := s.toks) (Nat.le_refl _) (slice_strN_ns S.F S.N (fun h' t' k F N hk => h t' _ ⟨F, N, S.nd, S.gens, S.os, Nat.lt_of_lt_of_le S.tok hk⟩) hs ht hsz)
theorem sTailSN {value slice : Expr} {x : Str} {t uj : Tok} {j : Int} {Q : Value → Shared → Prop} (S : St h₀ os L vs l led s)
    (hs : subscripted slice false (.str x t) (.ref s.heap.objs.size) = operate [.ref s.heap.objs.size, .str x t] (getItem (.str x t) (.ref s.heap.objs.size)))
    (ht : ∀ r, letTemporaryGo value (.str x t) r = pure ()) (hsz : x.length ≤ sizeLine) (h : ∀ t' s', St h₀ os L vs l led s' → Q (.str (Txt.slice x (some j) none) t') s') :
    wpAny (model pw w) A (subscriptTail value slice (.str x t) (.ref s.heap.objs.size)) Q E { s with heap := s.heap.push { cls := .type "slice", data := .fields #[.int j uj, .none, .none] } } :=
  wpAny_with_toks (n := s.toks) (Nat.le_refl _) (slice_strN_sn S.F S.N (fun h' t' k F N hk => h t' _ ⟨F, N, S.nd, S.gens, S.os, Nat.lt_of_lt_of_le S.tok hk⟩) hs ht hsz)

abbrev lstO (xs : List Value) : Obj := { cls := .type "list", data := .seq xs.toArray }
abbrev tupO (xs : List Value) : Obj := { cls := .type "tuple", data := .seq xs.toArray }

theorem isL {h : Heap} {a : Addr} {xs : List Value} {n : Nat} (e : h.get? a = some { cls := .type "list", data := .seq xs.toArray n }) : h.IsList a xs.toArray := ⟨_, e, rfl, _, rfl⟩

/-- a slice of a list: a new list -/
theorem lTail {value slice : Expr} {a : Addr} {items : Array Value} {vl vu : Value} {lo hi : Option Int} {Q : Value → Shared → Prop} (S : St h₀ os L vs l led s) (hl : s.heap.IsList a items) (pl : IsPart vl lo) (pu : IsPart vu hi)
    (hs : subscripted slice false (.ref a) (.ref s.heap.objs.size) = operate [.ref s.heap.objs.size, .ref a] (getItem (.ref a) (.ref s.heap.objs.size))) (ht : ∀ r, letTemporaryGo value (.ref a) r = pure ()) (hsz : items.size ≤ sizeLine)
    (h : ∀ D s', St h₀ os L vs l ((D, { cls := .type "list", data := .seq (slicePick items lo hi none) }) :: led) s' → Q (.ref D) s') :
    wpAny (model pw w) A (subscriptTail value slice (.ref a) (.ref s.heap.objs.size)) Q E { s with heap := s.heap.push { cls := .type "slice", data := .fields #[vl, vu, .none] } } := by
  have S1 := S.push (tk := s.toks) { cls := .type "slice", data := .fields #[vl, vu, .none] } (Nat.le_refl _)
  have S2 := (S1.push (tk := s.toks) { cls := .type "list", data := .seq (slicePick items lo hi none) } (Nat.le_refl _)).drop (led' := ((s.heap.push { cls := .type "slice", data := .fields #[vl, vu, .none] }).objs.size, { cls := .type "list", data := .seq (slicePick items lo hi none) }) :: led) (by
    refine List.Sublist.cons_cons _ (List.sublist_cons_self _ _))
  refine slice_listK hl pl pu (h _ _ ?_) hs ht hsz
  have e : (s.heap.push { cls := .type "slice", data := .fields #[vl, vu, .none] }).objs.size = s.heap.objs.size + 1 := Heap.size_push _ _
  rw [← e]
  exact S2

theorem St.of (S : St h₀ os L vs l led s) {h' : Heap} {tk : Nat} {o : Obj} (F : Fr h₀ L h' (locMap vs l)) (N : News h₀ L h' ((s.heap.objs.size, o) :: led)) (ht : s.toks ≤ tk) : St h₀ os L vs l ((s.heap.objs.size, o) :: led) { s with heap := h', toks := tk } := by
  refine ⟨F, N, ?_, S.gens, S.os, Nat.lt_of_lt_of_le S.tok ht⟩
  rw [List.map_cons, List.nodup_cons]
  refine ⟨fun hm => ?_, S.nd⟩
  obtain ⟨p, hp, e⟩ := List.mem_map.mp hm
  exact absurd (S.lt hp) (e ▸ Nat.lt_irrefl _)

theorem splitC {x y : Str} {t u : Tok} {Q : Value → Shared → Prop} (S : St h₀ os L vs l led s) (hy : (y.length == 0) = false) (hsz : x.length + 2 ≤ sizeLine)
    (h : ∀ D ps s', ps.map (·.1) = Txt.split x y → St h₀ os L vs l ((D, lstO (strValues ps)) :: led) s' → Q (.ref D) s') : wpAny (model pw w) A (call (.builtin "str.split") [.str x t, .str y u]) Q E s :=
  wpAny_with_toks (n := s.toks) (Nat.le_refl _) (splitN1 S.F S.N hy (fun ps h' k e F N hk => h _ ps _ e (S.of F N hk)) hsz)

theorem findC {x y : Str} {t u : Tok} {Q : Value → Shared → Prop} (S : St h₀ os L vs l led s) (h : ∀ t' s', St h₀ os L vs l led s' → Q (.int (Txt.find x y) t') s') : wpAny (model pw w) A (call (.builtin "str.find") [.str x t, .str y u]) Q E s :=
  PySem.SC.find (h _ _ (S.toks (Nat.succ_pos _)))

/-- a list display, a tuple display -/
theorem listI {M : Model} {es : List Expr} {pos : Pos} {Q : Value → Shared → Prop} (hs : noStar es = true) (h : ArgsW M A env E es (fun vs s₁ => wpAny M A (newList vs) Q E s₁) s) : wpAny M A (eval (.List es pos) env) Q E s :=
  List_ (spliced_es hs h)
theorem tupleI {M : Model} {es : List Expr} {k : Nat} {pos : Pos} {Q : Value → Shared → Prop} (hs : noStar es = true) (h : ArgsW M A env E es (fun vs s₁ => wpAny M A (newTuple vs) Q E s₁) s) : wpAny M A (eval (.Tuple es k pos) env) Q E s :=
  Tuple_ (spliced_es hs h)
theorem newL {M : Model} {xs : List Value} {Q : Value → Shared → Prop} (S : St h₀ os L vs l led s) (hsz : xs.length ≤ sizeLine) (h : ∀ D s', St h₀ os L vs l ((D, lstO xs) :: led) s' → Q (.ref D) s') : wpAny M A (newList xs) Q E s :=
  newList_N S.F S.N (fun h' F N => h _ _ (S.of F N (Nat.le_refl _))) hsz
theorem newT {M : Model} {xs : List Value} {Q : Value → Shared → Prop} (S : St h₀ os L vs l led s) (hsz : xs.length ≤ sizeLine) (h : ∀ D s', St h₀ os L vs l ((D, tupO xs) :: led) s' → Q (.ref D) s') : wpAny M A (newTuple xs) Q E s :=
  newTuple_N S.F S.N (fun h' F N => h _ _ (S.of F N (Nat.le_refl _))) hsz

theorem low (G : Gnd w h₀) : sysModules < h₀.objs.size := by
  obtain ⟨mg, mb, ⟨o, _, _, h, _⟩, _⟩ := G.top
  have := Heap.lt_size h
  exact Nat.lt_trans (by decide) this

/-- a dict display of written texts -/
theorem dictLits {keys : List (Option Expr)} {values : List Expr} {pos : Pos} {D : List (PyData × PyData)} {Q : Value → Shared → Prop} (G : Gnd w h₀) (S : St h₀ os L vs l led s) (hD : litPairs keys values = some D) (hs : strKeyed D = true) (hn : (strKeysOf D).Nodup) (hall : keys.all (·.isSome) = true)
    (hl : keys.length = values.length) (h0 : keys ≠ []) (hlen : keys.length ≤ 15)
    (h : ∀ a o s', TabObj (strKind pw w) PyData.str D o → (a == sysModules) = false → St h₀ os L vs l ((a, o) :: led) s' → Q (.ref a) s') : wpAny (model pw w) A (eval (.Dict keys values pos) env) Q E s :=
  wpAny_with_toks (n := s.toks) (Nat.le_refl _) (Dict_lits_str hD hs hn hall hl h0 hlen fun a o h₁ tk ha ho T hk ht => h a o _ T (by
    have h1 := low G
    have h2 := S.base
    exact beq_eq_false_iff_ne.mpr (Nat.ne_of_gt (Nat.lt_of_lt_of_le h1 (Nat.le_trans h2 ha)))) (S.made hk ho ha ht))

theorem getC {d : Addr} {o : Obj} {D : List (PyData × PyData)} {x : Str} {t : Tok} {dflt : Value} {dd : PyData} {Q : Value → Shared → Prop} (S : St h₀ os L vs l led s) (hm : (d, o) ∈ led) (T : TabObj (strKind pw w) PyData.str D o) (hd : (d == sysModules) = false) (hx : Flat dflt dd)
    (h : ∀ v s', Flat v ((lookup (.str x) D).getD dd) → St h₀ os L vs l led s' → Q v s') : wpAny (model pw w) A (call (.builtin "dict.get") [.ref d, .str x t, dflt]) Q E s := by
  obtain ⟨kvs, ho, hf⟩ := T
  exact call_get2_strTab ⟨hd, kvs, Heap.dictOf_iff.mpr ⟨o, (S.N _ hm).1, ho⟩, hf⟩ hx fun v hv => h v _ hv (S.toks (Nat.succ_pos _))

theorem gmDictGet {d : Addr} {o : Obj} {D : List (PyData × PyData)} {pl : Sem Bool} {Q : Value × List Value → Shared → Prop} (S : St h₀ os L vs l led s) (hm : (d, o) ∈ led) (T : TabObj (strKind pw w) PyData.str D o) (h : Q (.builtin "dict.get", [.ref d]) s) :
    wpAny (model pw w) A (getMethod (.ref d) "get" pl) Q E s := by
  obtain ⟨kvs, ho, hf⟩ := T
  have hT : s.heap.DictOf (strKind pw w) d kvs := Heap.dictOf_iff.mpr ⟨o, (S.N _ hm).1, ho⟩
  refine getMethod_builtin hT.typeIs F.plainAttrs_dict F.slot_dict_get F.type_dict_get (fun a e => ?_) h
  cases e
  obtain ⟨o', es, ep, h1, h2, _⟩ := hT
  exact ⟨o', h1, h2.2.1⟩

theorem gmList {a : Addr} {items : Array Value} {n : Nat} {name : Str} {id : String} {M : Model} {pl : Sem Bool} {Q : Value × List Value → Shared → Prop} (slot : PySem.Slot "list" name id) (ty : typeOf (.builtin id) = pure (.type "method_descriptor"))
    (ho : s.heap.get? a = some { cls := .type "list", data := .seq items n }) (h : Q (.builtin id, [.ref a]) s) : wpAny M A (getMethod (.ref a) name pl) Q E s :=
  getMethod_builtin ⟨_, ho, rfl⟩ F.plainAttrs_list slot ty (fun b e => by cases e; exact ⟨_, ho, rfl⟩) h

theorem lenL {a : Addr} {items : Array Value} {Q : Value → Shared → Prop} (S : St h₀ os L vs l led s) (hl : s.heap.IsList a items) (hsz : items.size ≤ sizeLine) (h : ∀ t s', St h₀ os L vs l led s' → Q (.int items.size t) s') : wpAny (model pw w) A (call (.builtin "len") [.ref a]) Q E s :=
  PyProof.Rows.len_list hl (by rw [sizeLine_eq] at hsz; omega) (h _ _ (S.toks (Nat.succ_pos _)))
theorem lenS {x : Str} {t : Tok} {Q : Value → Shared → Prop} (S : St h₀ os L vs l led s) (hsz : x.length ≤ sizeLine) (h : ∀ t s', St h₀ os L vs l led s' → Q (.int x.length t) s') : wpAny (model pw w) A (call (.builtin "len") [.str x t]) Q E s :=
  PySem.P.len_str (by rw [sizeLine_eq] at hsz; omega) (h _ _ (S.toks (Nat.succ_pos _)))
theorem itemL {value slice : Expr} {a : Addr} {items : Array Value} {k : Int} {u : Tok} {x : Value} {Q : Value → Shared → Prop} (hl : s.heap.IsList a items)
    (hs : subscripted slice false (.ref a) (.int k u) = operate [.ref a, .int k u] (getItem (.ref a) (.int k u))) (hg : ∀ r, letTemporaryGo value (.ref a) r = pure ())
    (h0 : 0 ≤ k) (hfit : k < 2 ^ 63) (hx : items[k.toNat]? = some x) (h : Q x s) : wpAny (model pw w) A (subscriptTail value slice (.ref a) (.int k u)) Q E s :=
  PyProof.Rows.item_list hl h0 hfit hx h hs hg
end
end
section
open PySem PySem.W PySem.Calls PyProof.Rows PySem.Spec PyProof.V PySem.Builtin PySem.Builtin.Str
set_option maxRecDepth 100000
set_option linter.unusedVariables false

/-! ### carriage return and line feed -/
def crlfL : List Nat → List Nat
  | 13 :: 10 :: r => 10 :: crlfL r
  | c :: r => c :: crlfL r
  | [] => []

theorem crlfL_hit (r : List Nat) : crlfL (13 :: 10 :: r) = 10 :: crlfL r := by rw [crlfL]
theorem crlfL_miss (c : Nat) (r : List Nat) (h : (c :: r).take 2 ≠ [13, 10]) : crlfL (c :: r) = c :: crlfL r := by
  rw [crlfL]
  intro r' e1 e2
  subst e1 e2
  exact h rfl
theorem crlfL_skip : ∀ (j : Nat) (l : List Nat), (∀ k, k < j → (l.drop k).take 2 ≠ [13, 10]) → crlfL l = l.take j ++ crlfL (l.drop j)
  | 0, l, _ => by simp
  | j + 1, [], _ => by simp [crlfL]
  | j + 1, c :: r, h => by
    rw [crlfL_miss c r (by simpa using h 0 (Nat.succ_pos _)), crlfL_skip j r (fun k hk => by simpa using h (k + 1) (Nat.succ_lt_succ hk))]
    simp
theorem crlfL_none (l : List Nat) (h : ∀ k, (l.drop k).take 2 ≠ [13, 10]) : crlfL l = l := by
  have := crlfL_skip l.length l (fun k _ => h k)
  rw [this]
  simp [crlfL]

abbrev yCL : Str := ⟨#[13, 10]⟩
abbrev zL : Str := ⟨#[10]⟩
theorem at_iff (x : Str) (k : Nat) : StrLaws.At x yCL x.length k ↔ (x.cps.toList.drop k).take 2 = [13, 10] := by
  unfold StrLaws.At
  rw [StrLaws.subAt_eq]
  show k + 2 ≤ x.length ∧ ((x.cps.toList.drop k).take 2 == [13, 10]) = true ↔ _
  rw [beq_iff_eq]
  constructor
  · exact fun h => h.2
  · intro h
    refine ⟨?_, h⟩
    have := congrArg List.length h
    simp only [List.length_take, List.length_drop, List.length_cons, List.length_nil] at this
    have e : x.length = x.cps.toList.length := by simp [Str.length]
    omega

theorem crlf_parts (x : Str) : ∀ (cuts : List Nat) (a f : Nat), StrLaws.ChainG x yCL x.length a cuts f → (∀ k, f ≤ k → ¬ StrLaws.At x yCL x.length k) →
    (Str.join zL (StrLaws.partsFrom x yCL.length a cuts)).cps.toList = crlfL (x.cps.toList.drop a)
  | [], a, f, h, hn => by
    have e : f = a := h
    subst e
    show (strSub x f x.length).cps.toList = _
    rw [StrLaws.strSub_toList, crlfL_none]
    · rw [List.take_of_length_le]
      simp [Str.length]
    · intro k hk
      rw [List.drop_drop] at hk
      exact hn (f + k) (Nat.le_add_right _ _) ((at_iff x _).mpr hk)
  | c :: r, a, f, h, hn => by
    obtain ⟨hac, hc, hno, hr⟩ := h
    have ih := crlf_parts x r (c + yCL.length) f hr hn
    obtain ⟨p, q, e⟩ := StrLaws.partsFrom_ne x yCL.length (c + yCL.length) r
    have hj : Str.join zL (StrLaws.partsFrom x yCL.length a (c :: r)) = strSub x a c ++ zL ++ Str.join zL (StrLaws.partsFrom x yCL.length (c + yCL.length) r) := by
      show Str.join zL (strSub x a c :: StrLaws.partsFrom x yCL.length (c + yCL.length) r) = _
      rw [e]
      rfl
    rw [hj, app_list, app_list, ih, StrLaws.strSub_toList]
    have h1 := crlfL_skip (c - a) (x.cps.toList.drop a) (fun k hk => by
      rw [List.drop_drop]
      intro q
      exact hno (a + k) (Nat.le_add_right _ _) (by omega) ((at_iff x _).mpr q))
    rw [h1, List.drop_drop, show a + (c - a) = c by omega]
    have hc' := (at_iff x c).mp hc
    have h2 : x.cps.toList.drop c = 13 :: 10 :: x.cps.toList.drop (c + 2) := by
      have h3 := (List.take_append_drop 2 (x.cps.toList.drop c)).symm
      rw [hc', List.drop_drop] at h3
      exact h3
    rw [h2, crlfL_hit]
    simp [yCL, Str.length]

theorem replace_crlf (x : Str) : (Txt.replace x yCL zL).cps.toList = crlfL x.cps.toList := by
  obtain ⟨f, hch, hno⟩ := StrLaws.occ_tight x yCL (by decide)
  unfold Txt.replace
  have h2 : ((yCL.length == 0 && zL.length == 0) : Bool) = false := rfl
  rw [h2, Bool.or_false]
  cases he : (occurrences x yCL 0 x.length (x.length + 1)).isEmpty
  · rw [if_neg Bool.false_ne_true, StrLaws.glued_eq_join, StrLaws.partsBetween_eq]
    have := crlf_parts x _ 0 f hch hno
    simpa using this
  · rw [if_pos rfl]
    have e : occurrences x yCL 0 x.length (x.length + 1) = [] := List.isEmpty_iff.mp he
    rw [e] at hch
    have : f = 0 := hch
    subst this
    rw [crlfL_none]
    intro k hk
    exact hno k (Nat.zero_le _) ((at_iff x k).mpr hk)

theorem crlfL_len : ∀ (n : Nat) (l : List Nat), l.length ≤ n → (crlfL l).length ≤ l.length
  | 0, [], _ => by simp [crlfL]
  | 0, _ :: _, h => by simp at h
  | n + 1, [], _ => by simp [crlfL]
  | n + 1, c :: r, h => by
    by_cases q : (c :: r).take 2 = [13, 10]
    · have h3 := (List.take_append_drop 2 (c :: r)).symm
      rw [q] at h3
      have hl : (c :: r).length = ((c :: r).drop 2).length + 2 := by rw [List.length_drop]; have := congrArg List.length q; simp at this; simp; omega
      rw [h3]
      show (crlfL (13 :: 10 :: (c :: r).drop 2)).length ≤ ([13, 10] ++ (c :: r).drop 2).length
      rw [crlfL_hit]
      have := crlfL_len n ((c :: r).drop 2) (by simp only [List.length_cons] at hl h; simp only [List.length_drop, List.length_cons]; omega)
      simp only [List.length_cons, List.length_append, List.length_nil] at this ⊢
      omega
    · rw [crlfL_miss c r q]
      have := crlfL_len n r (by simpa using h)
      simpa using this

/-! ### cutting at one sign -/
def splL (c : Nat) : List Nat → List (List Nat)
  | [] => [[]]
  | a :: r => if a = c then [] :: splL c r else match splL c r with
    | p :: ps => (a :: p) :: ps
    | [] => [[a]]
theorem splL_ne (c : Nat) : ∀ x, splL c x ≠ []
  | [] => by simp [splL]
  | a :: r => by
    unfold splL
    split
    · simp
    · split <;> simp
theorem splL_app (c : Nat) : ∀ (p : List Nat), c ∉ p → ∀ x, splL c (p ++ c :: x) = p :: splL c x
  | [], _, x => by simp [splL]
  | a :: p, h, x => by
    have ih := splL_app c p (fun q => h (.tail _ q)) x
    have ha : a ≠ c := fun e => h (e ▸ .head _)
    rw [List.cons_append, splL, if_neg ha, ih]
theorem splL_free (c : Nat) : ∀ (p : List Nat), c ∉ p → splL c p = [p]
  | [], _ => rfl
  | a :: p, h => by
    have ha : a ≠ c := fun e => h (e ▸ .head _)
    rw [splL, if_neg ha, splL_free c p (fun q => h (.tail _ q))]
theorem splL_join (c : Nat) : ∀ (ps : List Str), ps ≠ [] → (∀ p ∈ ps, c ∉ p.cps.toList) → splL c (Str.join ⟨#[c]⟩ ps).cps.toList = ps.map fun p => p.cps.toList
  | [], h, _ => absurd rfl h
  | [p], _, hf => splL_free c _ (hf p (.head _))
  | p :: q :: r, _, hf => by
    show splL c (p ++ ⟨#[c]⟩ ++ Str.join ⟨#[c]⟩ (q :: r)).cps.toList = _
    rw [app_list, app_list, List.append_assoc]
    show splL c (p.cps.toList ++ c :: (Str.join ⟨#[c]⟩ (q :: r)).cps.toList) = _
    rw [splL_app c _ (hf p (.head _)), splL_join c (q :: r) (by simp) (fun p hp => hf p (.tail _ hp))]
    rfl
theorem split_list (x : Str) (c : Nat) : (Txt.split x ⟨#[c]⟩).map (fun p => p.cps.toList) = splL c x.cps.toList := by
  rw [← splL_join c _ (split_ne_nil _ _) (StrLaws.split_free x c), StrLaws.join_split]

theorem slice_len (x : Str) (a b : Option Int) : (Txt.slice x a b).length ≤ x.length := by
  unfold Txt.slice
  split
  · exact Nat.le_refl _
  · show (List.toArray _).size ≤ _
    rw [List.size_toArray]
    exact Nat.le_trans (List.length_filterMap_le _ _) (sliceIndices_le _ _ _)
theorem slice_is (x : Str) (a b : Option Int) : Txt.slice x a b = StrLaws.sliceText x a b := rfl

theorem lit_lt : Str.ofString "<" = ⟨#[60]⟩ := by decide +kernel
theorem lit_gt : Str.ofString ">" = ⟨#[62]⟩ := by decide +kernel
theorem lit_qt : Str.ofString "\"" = ⟨#[34]⟩ := by decide +kernel
theorem lit_amp : Str.ofString "&" = ⟨#[38]⟩ := by decide +kernel
theorem lit_semi : Str.ofString ";" = ⟨#[59]⟩ := by decide +kernel
theorem lit_crlf : Str.ofString "\r\n" = yCL := by decide +kernel
theorem flatMap_len (f : Nat → List Nat) (k : Nat) (h : ∀ a, (f a).length ≤ k) (x : List Nat) : (x.flatMap f).length ≤ k * x.length := by
  induction x with
  | nil => simp
  | cons a r ih =>
    rw [List.flatMap_cons, List.length_append, List.length_cons, Nat.mul_add, Nat.mul_one]
    have := h a
    omega
theorem rep1_len (c : Nat) (z : List Nat) (h : z.length ≤ 1) (x : List Nat) : (rep1 c z x).length ≤ x.length := by
  have := flatMap_len (fun a => if a = c then z else [a]) 1 (fun a => by split <;> simp [h]) x
  unfold rep1
  omega
theorem repS_len (c : Nat) (z x : Str) (h : z.length ≤ 1) : (repS c z x).length ≤ x.length := by
  have h' : z.cps.toList.length ≤ 1 := by simpa [Str.length] using h
  have := rep1_len c z.cps.toList h' x.cps.toList
  simpa [repS, Str.length] using this
def crlfS (x : Str) : Str := Txt.replace x (Str.ofString "\r\n") (Str.ofString "\n")
theorem crlfS_list (x : Str) : (crlfS x).cps.toList = crlfL x.cps.toList := by
  unfold crlfS
  rw [lit_crlf, lit_nl]
  exact replace_crlf x
theorem crlfS_len (x : Str) : (crlfS x).length ≤ x.length := by
  have h := crlfS_list x
  have h2 := crlfL_len _ x.cps.toList (Nat.le_refl _)
  rw [← h] at h2
  simpa [Str.length] using h2

section
variable {w : World} {A : Around} {E : Value → Shared → Prop} {s : Shared} {h₀ : Heap} {os : OsG} {L : Addr} {vs : List Str} {l : List (Option Value)} {led : List (Addr × Obj)} {env : Env}
theorem replC1 {x y z : Str} {c : Nat} {t : Tok} {k1 k2 : Nat} {p p1 p2 : Pos} {Q : Value → Shared → Prop} (S : St h₀ os L vs l led s) (hy : y = ⟨#[c]⟩) (hz : z.length ≤ 1) (hyz : (y == z) = false) (hb : x.length ≤ 4000000)
    (h : ∀ t' s', (repS c z x).length ≤ x.length → St h₀ os L vs l led s' → Q (.str (repS c z x) t') s') :
    wpAny (model pw w) A (callWith p (.builtin "str.replace") [.str x t] (backTo p (starEach [.Constant (.str y) k1 p1, .Constant (.str z) k2 p2] env)) []) Q E s := by
  subst hy
  refine replC S hyz ?_ fun t' s' S' => ?_
  · have : (x.length + 1) * z.length ≤ (x.length + 1) * 1 := Nat.mul_le_mul_left _ hz
    omega
  · rw [replace_rep]
    exact h t' s' (repS_len c z x hz) S'
theorem replCL {x : Str} {t : Tok} {k1 k2 : Nat} {p p1 p2 : Pos} {Q : Value → Shared → Prop} (S : St h₀ os L vs l led s) (hb : x.length ≤ 4000000)
    (h : ∀ t' s', (crlfS x).length ≤ x.length → St h₀ os L vs l led s' → Q (.str (crlfS x) t') s') :
    wpAny (model pw w) A (callWith p (.builtin "str.replace") [.str x t] (backTo p (starEach [.Constant (.str (Str.ofString "\r\n")) k1 p1, .Constant (.str (Str.ofString "\n")) k2 p2] env)) []) Q E s := by
  refine replC S (by decide +kernel) ?_ fun t' s' S' => h t' s' (crlfS_len x) S'
  rw [show (Str.ofString "\n").length = 1 from by decide +kernel]; omega
end
end
section
open PySem PySem.W PySem.Calls PyProof.Rows PySem.Spec PyProof.V
set_option maxRecDepth 100000
set_option linter.unusedVariables false

/-- what is asked of a step's end, as names of their own -/
theorem absQ {α : Type} {M : Model} {A : Around} {m : Sem α} {Q : α → Shared → Prop} {E : Value → Shared → Prop} {s : Shared} (h : ∀ (Q' : α → Shared → Prop) (E' : Value → Shared → Prop), (∀ v s', Q v s' → Q' v s') → (∀ e s', E e s' → E' e s') → wpAny M A m Q' E' s) : wpAny M A m Q E s :=
  h Q E (fun _ _ x => x) (fun _ _ x => x)

/-! ### instances of the text's classes -/
theorem Upd.mid {d : Addr} {o o' : Obj} : ∀ (pre post : List (Addr × Obj)), ((pre ++ (d, o) :: post).map (·.1)).Nodup → Upd d o o' (pre ++ (d, o) :: post) (pre ++ (d, o') :: post)
  | [], post, h => by
    rw [List.nil_append, List.map_cons, List.nodup_cons] at h
    exact .head fun p hp e => h.1 (e ▸ List.mem_map.mpr ⟨p, hp, rfl⟩)
  | q :: pre, post, h => by
    rw [List.cons_append, List.map_cons, List.nodup_cons] at h
    refine .tail (fun e => h.1 ?_) (Upd.mid pre post h.2)
    rw [e]
    exact List.mem_map.mpr ⟨(d, o), List.mem_append_right _ (.head _), rfl⟩

theorem nodup_mid {d : Addr} {o o' : Obj} (pre post : List (Addr × Obj)) (h : ((pre ++ (d, o) :: post).map (·.1)).Nodup) : ((pre ++ (d, o') :: post).map (·.1)).Nodup := by
  simpa only [List.map_append, List.map_cons] using h

structure AttrOk (K : Frag) (C : Addr) (name : Str) : Prop where
  pg : plainGet K C name = true
  hd : hasDictIn K C = true
  no : findIn K (.ref C) name = some none
  sa : findIn K (.ref C) "__setattr__" = some (some (.builtin "object.__setattr__"))
  po : plainOver K C = true
  tk : takerIn K C name = some none
structure MethOk (K : Frag) (C : Addr) (name : Str) (f : Addr) : Prop where
  pg : plainGet K C name = true
  fi : findIn K (.ref C) name = some (some (.ref f))
  fn : isFn K (.ref f) = true

theorem putL_none {name : Str} {hs : Int} {k v : Value} : ∀ {es : List DictEntry}, getL name es = some none → putL name hs k v es = es ++ [⟨hs, k, v⟩]
  | [], _ => rfl
  | e :: r, h => by
    unfold getL at h
    rw [List.find?_cons] at h
    cases q : e.key.isStr name with
    | true => rw [q] at h; simp at h
    | false =>
      rw [q] at h
      have h' : getL name r = some none := by
        unfold getL
        simp only at h
        split at h
        · simp at h
        · rename_i e2
          split at h
          · cases h
          · rename_i h3
            rw [if_neg]
            intro h4
            exact h3 (by rw [List.any_cons, h4, Bool.or_true])
      simp only [putL, q, Bool.false_eq_true, if_false, List.cons_append]
      rw [putL_none h']
theorem putN_none {name : Str} {n : Nat} {es : List DictEntry} (h : getL name es = some none) : putN name es n = n + 1 := by
  unfold getL at h
  unfold putN
  split at h
  · simp at h
  · rename_i e
    have : es.any (·.key.isStr name) = false := by
      rw [List.find?_eq_none] at e
      rw [List.any_eq_false]
      intro x hx
      simpa using e x hx
    rw [this]; simp

section
variable {w : World} {A : Around} {E : Value → Shared → Prop} {s : Shared} {h₀ : Heap} {os : OsG} {L : Addr} {vs : List Str} {l : List (Option Value)} {led : List (Addr × Obj)} {env : Env}

theorem code_fn {f : Addr} {args : List Value} {R : Result → Shared → Prop} {ps : List Str} (K : FnOk w.params f ps args) (rest : List Str)
    (G : Gnd w h₀) (S : St h₀ os L vs l led s) (hA : A.depth < recursionLimit)
    (h : ∀ L' oL s₁, St h₀ os L' (ps ++ rest) (args.map some ++ List.replicate rest.length none) ((L, oL) :: led) s₁ →
      wpAny (model pw w) (A.deeper (callEnv (fdOf w.params f) L' f)) (execs (bodyOf (fdOf w.params f)) (callEnv (fdOf w.params f) L' f))
        (Ret h₀ os L vs l oL fun v s' => R (.ok (.ret v)) s') (fun _ _ => False) s₁) :
    codeAny (model pw w) A (.call (.ref f) ⟨args, []⟩) R s := by
  obtain ⟨hf, hd, hb, hcd, hbind, hlen, hnd, hloc', hcell', hco, hgen, hk⟩ := K
  have hloc : ∀ x ∈ ps, (fdOf w.params f).scope.names.lookup x = some .local := fun x hx => eq_of_beq (List.all_eq_true.mp hloc' x hx)
  have hcell : ∀ x ∈ (fdOf w.params f).scope.names, x.2 ≠ .cell := fun x hx e => by have := List.all_eq_true.mp hcell' x hx; rw [e] at this; exact absurd this (by decide)
  obtain ⟨oL, hL, hLf, hLn⟩ := S.under
  refine codeAny_call_def (fd := fdOf w.params f) (body := bodyOf (fdOf w.params f)) (binds := ps.zip args) hA (S.F.keep _ _ (G.kin _ _ hf)) hd (G.lim.keeps S.F.keep) (codeRec_of (G.kin.keeps S.F.keep) hcd) hb (.of_eq hbind) hcell
    (fun x hx => hloc x.1 (List.of_mem_zip hx).1) (fun h₁ hns hk₁ => ?_) hco hgen hk
  have hmap : (fun x => (ps.zip args).reverse.lookup x) = locMap (ps ++ rest) (args.map some ++ List.replicate rest.length none) := by
    funext y
    rw [lookup_reverse _ (by rw [map_zip_fst ps args hlen]; exact hnd), lookup_zip ps args rest hlen]
  rw [hmap] at hns
  have hLlt : L < s.heap.objs.size := Heap.lt_size hL
  have hle : h₀.objs.size ≤ s.heap.objs.size := Nat.le_trans S.F.above (Nat.le_of_lt hLlt)
  refine wpAny_mono (h s.heap.objs.size oL _ ⟨⟨hns, fun b o e => hk₁ b o (S.F.keep b o e), hle⟩, ?_, ?_, S.gens, S.os, Nat.lt_of_lt_of_le S.tok (Nat.le_add_right _ _)⟩) (fun fl s₂ h₂ => ?_) fun _ _ x => x.elim
  · intro p hp
    rcases List.mem_cons.mp hp with rfl | hp
    · exact ⟨hk₁ _ _ hL, Nat.ne_of_lt hLlt, none_of_ge S.F.above⟩
    · exact ⟨hk₁ _ _ (S.N p hp).1, Nat.ne_of_lt (Heap.lt_size (S.N p hp).1), (S.N p hp).2.2⟩
  · rw [List.map_cons, List.nodup_cons]
    refine ⟨fun hm => ?_, S.nd⟩
    obtain ⟨p, hp, e⟩ := List.mem_map.mp hm
    exact (S.N p hp).2.1 e
  · obtain ⟨L₂, vs', l', led', S₂, hQ⟩ := h₂
    have hL₂ : s₂.heap.get? L = some oL := (S₂.N (L, oL) (.head _)).1
    have hnd := S₂.nd
    rw [List.map_cons, List.nodup_cons] at hnd
    have St₂ : St h₀ os L vs l led' s₂ := ⟨⟨hLn _ hL₂, S₂.F.keep, S.F.above⟩, fun p hp => ⟨(S₂.N p (.tail _ hp)).1, fun e => hnd.1 (e ▸ List.mem_map.mpr ⟨p, hp, rfl⟩), (S₂.N p (.tail _ hp)).2.2⟩, hnd.2, S₂.gens, S₂.os, S₂.tok⟩
    cases fl <;> exact hQ St₂

theorem instAt {x dx C : Addr} {es : List DictEntry} {n : Nat} (S : St h₀ os L vs l led s) (hx : (x, instObj C dx) ∈ led) (hd : (dx, dictOf es n) ∈ led) : InstAt s.heap x (instObj C dx) C (some (dictOf es n)) :=
  InstAt.of_news S.N hx hd

theorem getOwn {x dx C : Addr} {es : List DictEntry} {n : Nat} {name : Str} {v : Value} {expr : Bool} {Q : Value → Shared → Prop} (G : Gnd w h₀) (S : St h₀ os L vs l led s) (hx : (x, instObj C dx) ∈ led) (hd : (dx, dictOf es n) ∈ led)
    (a : AttrOk (KF w.params) C name) (hl : getL name es = some (some v)) (hv : handedIn v = true) (h : ∀ s', St h₀ os L vs l led s' → Q v s') : wpAny (model pw w) A (getAttr (.ref x) name expr) Q E s :=
  get_own S.F G.kin (instAt S hx hd) a.pg a.hd a.no (by rfl) hl hv (h _ (S.toks (Nat.succ_pos _)))

theorem setOwn {x dx C : Addr} {es : List DictEntry} {n : Nat} {name : Str} {v : Value} {Q : Unit → Shared → Prop} (pre : List (Addr × Obj)) {post : List (Addr × Obj)} (G : Gnd w h₀) (S : St h₀ os L vs l (pre ++ (dx, dictOf es n) :: post) s)
    (hx : (x, instObj C dx) ∈ pre ++ (dx, dictOf es n) :: post) (a : AttrOk (KF w.params) C name) (hl : getL name es = some none) (hz : es.length < 1000)
    (h : ∀ hs t s', St h₀ os L vs l (pre ++ (dx, dictOf (es ++ [⟨hs, .str name t, v⟩]) (n + 1)) :: post) s' → Q () s') : wpAny (model pw w) A (setAttr (.ref x) name v) Q E s := by
  refine set_dict S.F G.kin S.N (instAt S hx (List.mem_append_right _ (.head _))) rfl a.sa a.po a.tk a.hd (by rw [hl]; rfl) (by rw [putL_none hl, putN_none hl]) (Upd.mid pre post S.nd) (by simp; omega) fun h' F N => ?_
  exact h _ _ _ ⟨F, N, nodup_mid pre post S.nd, S.gens, S.os, Nat.succ_pos _⟩

theorem gmInst {x dx C f : Addr} {es : List DictEntry} {n : Nat} {name : Str} {pl : Sem Bool} {Q : Value × List Value → Shared → Prop} (G : Gnd w h₀) (S : St h₀ os L vs l led s) (hx : (x, instObj C dx) ∈ led) (hd : (dx, dictOf es n) ∈ led)
    (a : MethOk (KF w.params) C name f) (hl : getL name es = some none) (h : Q (.ref f, [.ref x]) s) : wpAny (model pw w) A (getMethod (.ref x) name pl) Q E s :=
  method_inst S.F G.kin (instAt S hx hd) a.pg a.fi a.fn hl h

/-- an assignment to several names -/
theorem unpT {elts : List Expr} {k} {pos : Pos} {t : Addr} {xs : List Value} {Q : Unit → Shared → Prop} (hh : A.handled = none) (S : St h₀ os L vs l led s) (hm : (t, tupO xs) ∈ led)
    (hn : (assignEach elts env).length = xs.length) (hstar : (assignEach elts env).findIdx? (·.1) = none)
    (h : ∀ s', St h₀ os L vs l led s' → wpAny (model pw w) A (assignInOrder ((assignEach elts env).map (·.2)) xs) Q E s') : wpAny (model pw w) A (assign (.Tuple elts k pos) env (.ref t)) Q E s :=
  unpackN_ S.F S.N ⟨_, (S.N _ hm).1, rfl, _, rfl⟩ hh (by simpa using hn) hstar fun h' F N => h _ ⟨F, N, S.nd, S.gens, S.os, S.tok⟩
theorem unpI {t : Addr} {xs : List Value} {n : Nat} {Q : List Value → Shared → Prop} (hh : A.handled = none) (S : St h₀ os L vs l led s) (hm : (t, tupO xs) ∈ led) (hn : n = xs.length)
    (h : ∀ s', St h₀ os L vs l led s' → Q xs s') : wpAny (model pw w) A (unpackItems (.ref t) n none) Q E s :=
  unpackItemsN_ S.F S.N ⟨_, (S.N _ hm).1, rfl, _, rfl⟩ hh (by simpa using hn) fun h' F N => h _ ⟨F, N, S.nd, S.gens, S.os, S.tok⟩
theorem inOrder_nil {M : Model} {Q : Unit → Shared → Prop} (h : Q () s) : wpAny M A (assignInOrder [] []) Q E s := wpAny_pure h
theorem inOrder_cons {M : Model} {f : Value → Sem Unit} {fs : List (Value → Sem Unit)} {v : Value} {r : List Value} {Q : Unit → Shared → Prop} (h : wpAny M A (f v) (fun _ s₁ => wpAny M A (assignInOrder fs r) Q E s₁) E s) : wpAny M A (assignInOrder (f :: fs) (v :: r)) Q E s := by
  unfold assignInOrder
  exact wpAny_bind (wpAny_holding h)

/-- lists -/
theorem addL {a b : Addr} {xs ys : List Value} {Q : Value → Shared → Prop} (S : St h₀ os L vs l led s) (ha : s.heap.IsList a xs.toArray) (hb : s.heap.IsList b ys.toArray) (hsz : xs.length + ys.length ≤ sizeLine)
    (h : ∀ D s', St h₀ os L vs l ((D, lstO (xs ++ ys)) :: led) s' → Q (.ref D) s') : wpAny (model pw w) A (binaryOp .Add (.ref a) (.ref b)) Q E s :=
  add_lists S.F S.N ha hb (fun h' F N => h _ _ (S.of F N (Nat.le_refl _))) hsz

theorem mulL {a : Addr} {xs : List Value} {ns : List Int} {x : Int} {u : Tok} {Q : Value → Shared → Prop} (S : St h₀ os L vs l led s) (ha : (a, lstO xs) ∈ led) (hlo : -(2 ^ 63 : Int) ≤ x) (hhi : x < 2 ^ 63) (hsz : xs.length * x.toNat ≤ 2 ^ 24) (hne : xs ≠ [])
    (h : ∀ D s', St h₀ os L vs l ((D, lstO (List.replicate x.toNat xs).flatten) :: led) s' → Q (.ref D) s') : wpAny (model pw w) A (binaryOp .Mult (.ref a) (.int x u)) Q E s :=
  mul_list S.F S.N (S.N _ ha).1 hlo hhi (by simpa using hsz) fun h' F N => h _ _ (S.of F (by
    have e : (List.foldl (fun x1 x2 => x1 ++ x2) #[] (List.replicate (if xs.toArray.isEmpty = true then 0 else x.toNat) xs.toArray)) = (List.replicate x.toNat xs).flatten.toArray := by
      have he : xs.toArray.isEmpty = false := by cases xs <;> simp_all
      rw [he]
      simp only [Bool.false_eq_true, if_false]
      generalize x.toNat = k
      have gen : ∀ (acc : Array Value) k, List.foldl (fun x1 x2 => x1 ++ x2) acc (List.replicate k xs.toArray) = acc ++ (List.replicate k xs).flatten.toArray := by
        intro acc k
        induction k generalizing acc with
        | zero => simp
        | succ k ih => rw [List.replicate_succ, List.replicate_succ, List.foldl_cons, ih]; simp
      rw [gen]; simp
    rw [e] at N
    exact N) (Nat.le_refl _))

theorem setL {D : Addr} {xs : List Value} {k : Int} {n : Nat} {t : Tok} {v : Value} {Q : Unit → Shared → Prop} (S : St h₀ os L vs l ((D, { cls := .type "list", data := .seq xs.toArray n }) :: led) s) (h0 : 0 ≤ k) (hfit : k < 2 ^ 63) (hn : k < xs.length)
    (h : ∀ s', St h₀ os L vs l ((D, { cls := .type "list", data := .seq (xs.set k.toNat v).toArray n }) :: led) s' → Q () s') : wpAny (model pw w) A (setItem (.ref D) (.int k t) v) Q E s := by
  have N := S.N _ (.head _)
  refine ki_setAt N.1 h0 hfit (by simpa using hn) (h _ ?_)
  have := S.upd (h' := s.heap.update D (Obj.mapSeq (·.setIfInBounds k.toNat v))) (tk := s.toks) (o' := { cls := .type "list", data := .seq (xs.set k.toNat v).toArray n }) (Heap.SameBut.update _ _ _) ?_ (Nat.le_refl _)
  · exact this
  · rw [Heap.get?_update_self _ N.1 (by rfl)]
    simp [Obj.mapSeq]
theorem tupL {a : Addr} {xs : List Value} {Q : Value → Shared → Prop} (S : St h₀ os L vs l led s) (ha : s.heap.IsList a xs.toArray) (hsz : xs.length ≤ sizeLine) (h : ∀ D s', St h₀ os L vs l ((D, tupO xs) :: led) s' → Q (.ref D) s') :
    wpAny (model pw w) A (call (.type "tuple") [.ref a]) Q E s :=
  call_tuple_list ha (fun h' hk => h _ _ ((S.kept (tk := s.toks) hk (Nat.le_refl _)).push (tk := s.toks) _ (Nat.le_refl _))) (by simpa using hsz)
theorem maxI {a b : Int} {t u : Tok} {Q : Value → Shared → Prop} (hh : A.handled = none) (S : St h₀ os L vs l led s) (h : ∀ t' s', St h₀ os L vs l led s' → Q (.int (if b > a then b else a) t') s') : wpAny (model pw w) A (call (.builtin "max") [.int a t, .int b u]) Q E s :=
  wpAny_with_toks (n := s.toks) (Nat.le_refl _) (max_two_ints hh fun h' tk hk => by
    by_cases c : b > a
    · rw [if_pos c] at h ⊢; exact fun hle => h u _ (S.kept hk hle)
    · rw [if_neg c] at h ⊢; exact fun hle => h t _ (S.kept hk hle))
theorem tIdx {value slice : Expr} {t : Addr} {xs : List Value} {k : Int} {u : Tok} {v : Value} {Q : Value → Shared → Prop} (S : St h₀ os L vs l led s) (hm : (t, tupO xs) ∈ led)
    (hs : subscripted slice false (.ref t) (.int k u) = operate [.ref t, .int k u] (getItem (.ref t) (.int k u))) (h0 : 0 ≤ k) (hfit : k < 2 ^ 63) (hx : xs[k.toNat]? = some v) (h : Q v s) :
    wpAny (model pw w) A (subscriptTail value slice (.ref t) (.int k u)) Q E s := by
  obtain ⟨j, rfl⟩ := Int.eq_ofNat_of_zero_le h0
  refine item_tupleT (l := xs) (j := j) ⟨_, (S.N _ hm).1, rfl, _, rfl⟩ (by omega) hfit ?_ hx h hs
  have hj : j < xs.length := (List.getElem?_eq_some_iff.mp hx).1
  unfold seqIndex?
  simp
  omega
end
end
local macro_rules | `(tactic| one_item) => `(tactic| (refine Nat.le_trans ?_ (show 8000000 ≤ sizeLine by decide +kernel); (try simp only [Str.length_append, len1, lenlits]); omega))
local macro_rules | `(tactic| tb_rel) => `(tactic| (with_reducible first | exact gl_NannyNag _ | exact gl_Whitespace _ | exact gl_format_witnesses _ | exact gl_escape_cdata _ | exact gl_escape_attrib _ | exact gl_escape_attrib_html _ | exact gl_escape_cdata_c14n _ | exact gl_escape_attrib_c14n _ | exact gl_law_write _ | exact gl_law_kept _ | exact gl_law_read _ | exact gl_law_carried _ | exact gl_law_read_lines _ | exact gl_law_outline _ | exact gl_law_column _ | exact gl_law_apart _ | exact gl_law_due _ | exact bl_len _ | exact bl_max _ | exact bl_range _ | exact bl_str _ | exact bl_tuple _ | exact bl_sum _))
set_option hygiene false in
local macro_rules | `(tactic| tb_start) => `(tactic| first
  | (with_reducible refine seqI ?_)
  | (with_reducible refine nmL S (by assumption) (by with_unfolding_all rfl) ?_)
  | (with_reducible refine cStr S ?_; clear S; intro t s S)
  | (with_reducible refine cInt S ?_; clear S; intro t s S)
  | (with_reducible refine cBool ?_)
  | (with_reducible refine cNeg1 S ?_; clear S; intro t s S)
  | (with_reducible refine cNone ?_)
  | (with_reducible refine thenN ?_)
  | (with_reducible refine thenR ?_)
  | (with_reducible refine thenB ?_)
  | (with_reducible refine retI S ?_; clear S; intro S)
  | (with_reducible refine wpAny_truthy_bool ?_)
  | (with_reducible refine wpAny_If ?_)
  | (with_reducible refine PyProof.Rows.Attribute_name ?_)
  | (with_reducible refine wpAny_Expr_any ?_ (by with_unfolding_all rfl) (by with_unfolding_all rfl))
  | (with_reducible refine wpAny_Assign_Subscript ?_ (by with_unfolding_all rfl))
  | (with_reducible refine plainObj_wpAny_Assign_Attribute ?_ (by with_unfolding_all rfl))
  | (with_reducible refine wpAny_isTrue_Compare1 ?_ (by with_unfolding_all rfl))
  | (with_reducible refine wpAny_Compare1 ?_ (by with_unfolding_all rfl))
  | (with_reducible refine wpAny_BinOp ?_)
  | (with_reducible refine wpAny_Return_some ?_)
  | (with_reducible refine wpAny_execs_nil ?_)
  | (with_reducible refine wpAny_Break ?_)
  | (with_reducible refine PyProof.Rows.eq_int ?_)
  | (with_reducible refine PyProof.Rows.ne_int ?_)
  | (with_reducible refine PyProof.Rows.lt_int ?_)
  | (with_reducible refine PySem.P.le_int ?_)
  | (with_reducible refine PySem.P.ge_int ?_)
  | (with_reducible refine PySem.P.gt_int ?_)
  | (with_reducible refine addI S ?_; clear S; intro t s S)
  | (with_reducible refine subI S ?_; clear S; intro t s S)
  | (with_reducible refine wpAny_Assign_Name ?_ (by with_unfolding_all rfl))
  | (with_reducible refine stL S (by assumption) (by simp) ?_; clear S; intro s S; dsimp only [List.set] at S)
  | (with_reducible refine isOr2 ?_)
  | (with_reducible refine wpAny_isTrue_Not ?_)
  | (with_reducible refine isPlain (by with_unfolding_all rfl) ?_)
  | (with_reducible refine inS ?_)
  | (with_reducible refine notInS ?_)
  | (with_reducible refine addS S ?hsz ?_; (case hsz => one_item); clear S; intro t s S)
  | (with_reducible refine PyProof.Rows.eq_str ?_)
  | (with_reducible refine PyProof.Rows.ne_str ?_)
  | (with_reducible refine wpAny_assign_Name ?_)
  | (with_reducible refine kas_attr ?_)
  | (with_reducible refine methI (by with_unfolding_all rfl) (by with_unfolding_all rfl) (by with_unfolding_all decide) (by with_unfolding_all rfl) ?_)
  | (with_reducible refine subNS ?_)
  | (with_reducible refine subSN ?_)
  | (with_reducible refine Subscript_ ?_)
  | (with_reducible refine sTailNS S ?h1 ?h2 ?h3 ?_; (case h1 => with_unfolding_all rfl); (case h2 => intro _; with_unfolding_all rfl); (case h3 => one_item); clear S; intro t s S)
  | (with_reducible refine sTailSN S ?h1 ?h2 ?h3 ?_; (case h1 => with_unfolding_all rfl); (case h2 => intro _; with_unfolding_all rfl); (case h3 => one_item); clear S; intro t s S)
  | (with_reducible refine findC S ?_; clear S; intro t s S)
  | (with_reducible refine listI rfl ?_; dsimp only [ArgsW])
  | (with_reducible refine tupleI rfl ?_; dsimp only [ArgsW])
  | (intro pl; with_reducible first | refine GM.replace ?_ | refine GM.find ?_ | refine GM.split ?_ | refine GM.join ?_); dsimp only
  | (with_reducible refine callName ?_)
  | (with_reducible refine nmG' G S (by tb_rel) (by kernel_rfl) (by kernel_rfl) (by kernel_rfl) (by decide +kernel) ?_)
  | (with_reducible refine nmB' G S (by tb_rel) (by kernel_rfl) (by kernel_rfl) (by kernel_rfl) (by kernel_rfl) ?_)
  | (with_reducible refine replCL S ?h4 ?_; (case h4 => omega); clear S; intro t s hl S)
  | (with_reducible refine replC1 S (by first | exact lit_nl | exact lit_cr | exact lit_tab | exact lit_lt | exact lit_gt | exact lit_qt) ?h2 ?h3 ?h4 ?_; (case h2 => decide +kernel); (case h3 => decide +kernel); (case h4 => omega); clear S; intro t s hl S)
  | (with_reducible refine cwB rfl ?_; dsimp only [ArgsW, List.nil_append, List.cons_append])
  | (with_reducible refine cwT rfl ?_; dsimp only [ArgsW, List.nil_append, List.cons_append])
  | (with_reducible refine cwK (w := w) rfl (by kernel_rfl) ?_; dsimp only [ArgsW, List.nil_append, List.cons_append])
  | (with_reducible refine And.intro (G.kin.keeps S.F.keep) ?_)
  | (with_reducible refine iteT ?_)
  | (with_reducible refine iteF ?_)
  | (with_reducible refine iteI ?_ ?_ <;> intro hc))
section
open PySem PySem.W PySem.Calls PyProof.Rows PySem.Spec PyProof.V
set_option maxRecDepth 100000
set_option maxHeartbeats 4000000
set_option linter.unusedVariables false

/-! ### what a lead comes to -/
structure WsD where
  cnt : List Nat
  b : Nat
  n : Nat
  nt : Nat
def bumpC (cnt : List Nat) (b : Nat) : List Nat := if b ≥ cnt.length then cnt ++ List.replicate (b - cnt.length + 1) 0 else cnt
def bump (cnt : List Nat) (b : Nat) : List Nat := (bumpC cnt b).set b ((bumpC cnt b).getD b 0 + 1)
def wscan : List Nat → WsD → WsD
  | [], d => d
  | c :: r, d => if c = 32 then wscan r ⟨d.cnt, d.b + 1, d.n + 1, d.nt⟩ else if c = 9 then wscan r ⟨bump d.cnt d.b, 0, d.n + 1, d.nt + 1⟩ else d
def scan (x : List Nat) : WsD := wscan x ⟨[], 0, 0, 0⟩
structure WsB (d : WsD) (k : Nat) : Prop where
  n : d.n ≤ k
  b : d.b ≤ d.n
  nt : d.nt ≤ d.n
  len : d.cnt.length ≤ d.n
  each : ∀ c ∈ d.cnt, c ≤ d.n
theorem bumpC_len (cnt : List Nat) (b : Nat) : (bumpC cnt b).length = max cnt.length (b + 1) := by
  unfold bumpC
  split
  · rw [List.length_append, List.length_replicate]; omega
  · omega
theorem bumpC_mem {cnt : List Nat} {b c : Nat} (h : c ∈ bumpC cnt b) : c ∈ cnt ∨ c = 0 := by
  unfold bumpC at h
  split at h
  · rcases List.mem_append.mp h with h | h
    · exact .inl h
    · exact .inr (List.eq_of_mem_replicate h)
  · exact .inl h
theorem WsB.sp {d : WsD} {k : Nat} (h : WsB d k) : WsB ⟨d.cnt, d.b + 1, d.n + 1, d.nt⟩ (k + 1) :=
  ⟨by have := h.n; show d.n + 1 ≤ k + 1; omega, by have := h.b; show d.b + 1 ≤ d.n + 1; omega, by have := h.nt; show d.nt ≤ d.n + 1; omega, by have := h.len; show d.cnt.length ≤ d.n + 1; omega, fun c hc => Nat.le_succ_of_le (h.each c hc)⟩
theorem WsB.tab {d : WsD} {k : Nat} (h : WsB d k) : WsB ⟨bump d.cnt d.b, 0, d.n + 1, d.nt + 1⟩ (k + 1) := by
  have h1 := h.n; have h2 := h.b; have h3 := h.nt; have h4 := h.len
  refine ⟨by show d.n + 1 ≤ k + 1; omega, Nat.zero_le _, by show d.nt + 1 ≤ d.n + 1; omega, ?_, ?_⟩
  · show (bump d.cnt d.b).length ≤ d.n + 1
    unfold bump
    rw [List.length_set, bumpC_len]
    omega
  · intro c hc
    show c ≤ d.n + 1
    have key : ∀ c, c ∈ bumpC d.cnt d.b → c ≤ d.n := fun c hc => (bumpC_mem hc).elim (h.each c) (fun e => e ▸ Nat.zero_le _)
    rcases List.mem_or_eq_of_mem_set hc with hc | rfl
    · exact Nat.le_succ_of_le (key c hc)
    · by_cases q : d.b < (bumpC d.cnt d.b).length
      · have := key _ (List.getElem_mem q)
        rw [List.getD_eq_getElem?_getD, List.getElem?_eq_getElem q]
        exact Nat.succ_le_succ this
      · rw [List.getD_eq_getElem?_getD, List.getElem?_eq_none (Nat.le_of_not_lt q)]
        exact Nat.succ_le_succ (Nat.zero_le _)

structure WsEs (es : List DictEntry) (d : WsD) (tn : Addr) : Prop where
  n : ∃ t, getL "n" es = some (some (.int d.n t))
  nt : ∃ t, getL "nt" es = some (some (.int d.nt t))
  norm : getL "norm" es = some (some (.ref tn))
  simple : getL "is_simple" es = some (some (.bool (decide (d.cnt.length ≤ 1))))
  m1 : getL "longest_run_of_spaces" es = some none
  m2 : getL "indent_level" es = some none
  m3 : getL "equal" es = some none
  m4 : getL "not_equal_witness" es = some none
  m5 : getL "less" es = some none
def intsOf (c : List Nat) : List Int := c.map fun (n : Nat) => (n : Int)
/-- an instance, its dict, its norm in the ledger -/
def WsAt (led : List (Addr × Obj)) (x : Addr) (d : WsD) : Prop :=
  ∃ dx es k tn tc cv tb, (x, instObj 124 dx) ∈ led ∧ (dx, dictOf es k) ∈ led ∧ (tn, tupO [.ref tc, .int d.b tb]) ∈ led ∧ (tc, tupO cv) ∈ led ∧ IntsAre cv (intsOf d.cnt) ∧ WsEs es d tn
theorem WsAt.mono {led led' : List (Addr × Obj)} {x : Addr} {d : WsD} (h : WsAt led x d) (q : ∀ p ∈ led, p ∈ led') : WsAt led' x d := by
  obtain ⟨dx, es, k, tn, tc, cv, tb, a, b, c, e, f⟩ := h
  exact ⟨dx, es, k, tn, tc, cv, tb, q _ a, q _ b, q _ c, q _ e, f⟩

theorem at_raw (P : Params) : AttrOk (KF P) 124 "raw" := ⟨by kernel_rfl, by kernel_rfl, by kernel_rfl, by kernel_rfl, by kernel_rfl, by kernel_rfl⟩
theorem at_n (P : Params) : AttrOk (KF P) 124 "n" := ⟨by kernel_rfl, by kernel_rfl, by kernel_rfl, by kernel_rfl, by kernel_rfl, by kernel_rfl⟩
theorem at_nt (P : Params) : AttrOk (KF P) 124 "nt" := ⟨by kernel_rfl, by kernel_rfl, by kernel_rfl, by kernel_rfl, by kernel_rfl, by kernel_rfl⟩
theorem at_norm (P : Params) : AttrOk (KF P) 124 "norm" := ⟨by kernel_rfl, by kernel_rfl, by kernel_rfl, by kernel_rfl, by kernel_rfl, by kernel_rfl⟩
theorem at_simple (P : Params) : AttrOk (KF P) 124 "is_simple" := ⟨by kernel_rfl, by kernel_rfl, by kernel_rfl, by kernel_rfl, by kernel_rfl, by kernel_rfl⟩
theorem me_long (P : Params) : MethOk (KF P) 124 "longest_run_of_spaces" 86 := ⟨by kernel_rfl, by kernel_rfl, by kernel_rfl⟩
theorem me_ind (P : Params) : MethOk (KF P) 124 "indent_level" 93 := ⟨by kernel_rfl, by kernel_rfl, by kernel_rfl⟩
theorem me_eq (P : Params) : MethOk (KF P) 124 "equal" 100 := ⟨by kernel_rfl, by kernel_rfl, by kernel_rfl⟩
theorem me_wit (P : Params) : MethOk (KF P) 124 "not_equal_witness" 107 := ⟨by kernel_rfl, by kernel_rfl, by kernel_rfl⟩
theorem me_less (P : Params) : MethOk (KF P) 124 "less" 114 := ⟨by kernel_rfl, by kernel_rfl, by kernel_rfl⟩

theorem AOk.cls {A : Around} {d u : Nat} {C : Addr} {vals : List Value} {kw : List (Str × Value)} (h : AOk A (d + 1) (u + 4)) : AOk (A.under (.builtin "type.__call__" ⟨.ref C :: vals, kw⟩)) d u :=
  ⟨h.hd, by have := h.dp; show A.depth + 1 + d < _; omega, by have := h.un; show A.units + 1 + u < _; omega⟩

section
variable {w : World} {A : Around} {E : Value → Shared → Prop} {s : Shared} {h₀ : Heap} {os : OsG} {L : Addr} {vs : List Str} {l : List (Option Value)} {led : List (Addr × Obj)} {env : Env}

theorem bindN {M : Model} {x : Str} {v : Value} {Q : Unit → Shared → Prop} (h : wpAny M A (storeName env x v) Q E s) : wpAny M A (bindName env x v) Q E s := by
  unfold bindName
  refine wpAny_bind (wpAny_holding (wpAny_point (wpAny_bind (wpAny_mono h (fun _ _ x => wpAny_point x) fun _ _ e => e))))
theorem exJ {M : Model} {st : Stmt} {rest : List Stmt} {Q : Flow → Shared → Prop} (P : Shared → Prop) (h : wpAny M A (exec st env) (fun f s' => f = .next ∧ P s') E s) (k : ∀ s', P s' → wpAny M A (execs rest env) Q E s') :
    wpAny M A (exec st env) (Then M A rest env Q E) E s :=
  wpAny_mono h (fun f s' x => by obtain ⟨rfl, hp⟩ := x; exact thenN (k s' hp)) fun _ _ e => e
noncomputable def tokAt (P : Params) (x : Str) : Tok := match findCls (KF P) (.ref 124) (.type "type") x with
  | some (.val (.str _ t)) => t
  | _ => 0
theorem fc_S (P : Params) : findCls (KF P) (.ref 124) (.type "type") "S" = some (.val (.str (Str.ofString " ") (tokAt P "S"))) := by kernel_rfl
theorem fc_T (P : Params) : findCls (KF P) (.ref 124) (.type "type") "T" = some (.val (.str (Str.ofString "\t") (tokAt P "T"))) := by kernel_rfl
theorem clsVal {name : Str} {v : Value} {expr : Bool} {Q : Value → Shared → Prop} (G : Gnd w h₀) (S : St h₀ os L vs l led s) (hm : typeIn (KF w.params) (.ref 124) = some (.type "type")) (hr : readsIn (KF w.params) 124 (.type "type") = true)
    (e : findCls (KF w.params) (.ref 124) (.type "type") name = some (.val v)) (hh : handedIn v = true) (h : ∀ s', St h₀ os L vs l led s' → Q v s') : wpAny (model pw w) A (getAttr (.ref 124) name expr) Q E s :=
  cls_val S.F G.kin hm hr e hh (h _ (S.toks (Nat.succ_pos _)))

theorem ints_rep (n : Nat) (i : Int) (t : Tok) : IntsAre (List.replicate n (.int i t)) (List.replicate n i) := by
  induction n with
  | zero => exact .nil
  | succ n ih => rw [List.replicate_succ, List.replicate_succ]; exact .cons _ _ ih
set_option hygiene false in
local macro_rules | `(tactic| one_item) => `(tactic| (
          have hlen' : cv'.length = (bumpC d.cnt d.b).length := by rw [hcv'.length]; simp [intsOf]
          have hbl : d.b < (bumpC d.cnt d.b).length := by rw [bumpC_len]; omega
          have hget : ∃ tc, cv'[((d.b : Nat) : Int).toNat]? = some (.int ((bumpC d.cnt d.b).getD d.b 0 : Nat) tc) := by
            obtain ⟨tc, e⟩ := hcv'.get d.b ((bumpC d.cnt d.b).getD d.b 0 : Nat) (by unfold intsOf; rw [List.getElem?_map, List.getD_eq_getElem?_getD, List.getElem?_eq_getElem hbl]; rfl)
            exact ⟨tc, by rw [Int.toNat_natCast]; exact e⟩
          obtain ⟨tc, hget⟩ := hget
          refine itemL (isL (S.N _ (.head _)).1) (by with_unfolding_all rfl) (by intro _; with_unfolding_all rfl) (by omega) hbd (x := .int ((bumpC d.cnt d.b).getD d.b 0 : Nat) tc) (by simpa using hget) ?_
          repeat tb_start
          refine setL S (by omega) hbd (by omega) ?_
          clear S; intro s S
          repeat tb_start
          refine hQT _ _ ?_
          refine turnN (led' := [(_, _)]) S ⟨_, _, _, ⟨bump d.cnt d.b, 0, d.n + 1, d.nt + 1⟩, _, _, _, _, rfl, ?_, hB.tab, hsc', rfl⟩
          unfold bump intsOf
          rw [List.map_set, Int.toNat_natCast]
          exact ints_set hcv' d.b))
theorem c_ws {x : Str} {t₀ : Tok} {Q : Value → Shared → Prop} (G : Gnd w h₀) (S : St h₀ os L vs l led s) (O : AOk A 4 30) (hx : x.length ≤ 100000)
    (h : ∀ a cells s', WsAt cells a (scan x.cps.toList) → St h₀ os L vs l (cells ++ led) s' → Q (.ref a) s') :
    wpAny (model pw w) A (call (.ref 124) [.str x t₀]) Q E s := by
  refine call_cls (fI := 79) S.F G.kin S.N (by kernel_rfl) (by kernel_rfl) (by kernel_rfl) fun a dx h' F N hlt hdx => ?_
  have O := O.cls (C := 124) (vals := [.str x t₀]) (kw := [])
  generalize A.under _ = A' at O ⊢
  generalize hQ : InitBack a _ = QQ
  have hQQ : ∀ s' cells, WsAt cells a (scan x.cps.toList) → St h₀ os L vs l (cells ++ led) s' → QQ (.ok (.ret .none)) s' := by
    intro s' cells hw hS
    rw [← hQ]
    exact ⟨rfl, h _ _ _ hw hS⟩
  clear hQ h
  have S1 : St h₀ os L vs l ((a, instObj 124 dx) :: (dx, dictOf [] 0) :: led) { s with heap := h' } := by
    refine ⟨F, N, ?_, S.gens, S.os, S.tok⟩
    simp only [List.map_cons, List.nodup_cons, List.mem_cons, not_or]
    refine ⟨⟨Nat.ne_of_gt hdx, fun hm => ?_⟩, fun hm => ?_, S.nd⟩
    · obtain ⟨p, hp, e⟩ := List.mem_map.mp hm
      have h1 : p.1 < dx := hlt p hp
      exact absurd (Nat.lt_trans h1 hdx) (by rw [show p.1 = a from e]; exact Nat.lt_irrefl _)
    · obtain ⟨p, hp, e⟩ := List.mem_map.mp hm
      have h1 : p.1 < dx := hlt p hp
      exact absurd h1 (by rw [show p.1 = dx from e]; exact Nat.lt_irrefl _)
  have K := fn_wsinit w.params (.ref a) (.str x t₀)
  refine code_fn K rs_wsinit G S1 (by have := O.dp; omega) ?_
  clear S
  intro L' oL s₁ S
  have V0 := sl_wsinit_self w.params L'
  have V1 := sl_wsinit_ws w.params L'
  have V2 := sl_wsinit_S w.params L'
  have V3 := sl_wsinit_T w.params L'
  have V4 := sl_wsinit_count w.params L'
  have V5 := sl_wsinit_b w.params L'
  have V6 := sl_wsinit_n w.params L'
  have V7 := sl_wsinit_nt w.params L'
  have V8 := sl_wsinit_ch w.params L'
  have O := O.deeper (env := callEnv (fdOf w.params 79) L' 79)
  dsimp only [List.map, List.replicate, List.cons_append, List.nil_append, List.append_nil, List.length] at S
  refine seqI ?_
  repeat tb_start
  refine setOwn [(L, oL), (a, instObj 124 dx)] G S (by simp) (at_raw _) (by rfl) (by simp) ?_
  clear S; intro h1 t1 s S
  repeat tb_start
  refine Assign_Tuple_swapped (names := [Str.ofString "S", Str.ofString "T"]) ?_ (by with_unfolding_all rfl) (by with_unfolding_all rfl)
  repeat tb_start
  refine clsVal G S (by kernel_rfl) (by kernel_rfl) (fc_S _) (by rfl) ?_
  clear S; intro s S
  repeat tb_start
  refine clsVal G S (by kernel_rfl) (by kernel_rfl) (fc_T _) (by rfl) ?_
  clear S; intro s S
  refine newT S (show 2 ≤ sizeLine by decide +kernel) ?_
  clear S; intro D s S
  refine unpI O.hd S (.head _) (by rfl) ?_
  clear S; intro s S
  have S := S.drop (List.sublist_cons_self _ _)
  refine inOrder_cons (bindN ?_)
  repeat tb_start
  refine inOrder_cons (bindN ?_)
  repeat tb_start
  refine inOrder_nil ?_
  repeat tb_start
  refine newL S (Nat.zero_le _) ?_
  clear S; intro Dc s S
  repeat tb_start
  refine wpAny_Assign_three ?_ (by with_unfolding_all rfl) (by with_unfolding_all rfl)
  repeat tb_start
  refine exJ (fun s => ∃ D cv k tS tT tb tn tnt ch, IntsAre cv (intsOf (scan x.cps.toList).cnt) ∧ WsB (scan x.cps.toList) x.length ∧
    St h₀ os L' vs_wsinit [some (.ref a), some (.str x t₀), some (.str (Str.ofString " ") tS), some (.str (Str.ofString "\t") tT), some (.ref D), some (.int (scan x.cps.toList).b tb), some (.int (scan x.cps.toList).n tn), some (.int (scan x.cps.toList).nt tnt), ch]
      ((D, { cls := .type "list", data := .seq cv.toArray k }) :: (L, oL) :: (a, instObj 124 dx) :: (dx, dictOf [⟨h1, .str "raw" t1, .str x t₀⟩] 1) :: led) s) ?_ ?_
  · refine wpFor (by intro _; rfl) ?_
    repeat tb_start
    refine getOwn G S (by simp) (List.mem_cons_of_mem _ (List.mem_cons_of_mem _ (List.mem_cons_of_mem _ (.head _)))) (at_raw _) (by rfl) (by rfl) ?_
    clear S; intro s S
    generalize tokAt w.params "S" = tS at S
    generalize tokAt w.params "T" = tT at S
    refine forStr (led₀ := [(Dc, lstO [])]) (fun i l led' => ∃ D cv k d tb tn tnt ch, led' = [(D, { cls := .type "list", data := .seq cv.toArray k })] ∧ IntsAre cv (intsOf d.cnt) ∧ WsB d i ∧ wscan (x.cps.toList.drop i) d = scan x.cps.toList ∧
      l = [some (.ref a), some (.str x t₀), some (.str (Str.ofString " ") tS), some (.str (Str.ofString "\t") tT), some (.ref D), some (.int d.b tb), some (.int d.n tn), some (.int d.nt tnt), ch]) O.hd S ⟨Dc, [], 0, ⟨[], 0, 0, 0⟩, _, _, _, _, rfl, (show IntsAre [] (intsOf []) from IntsAre.nil), ⟨Nat.le_refl _, Nat.le_refl _, Nat.le_refl _, Nat.le_refl _, nofun⟩, rfl, rfl⟩ ?_ ?_
    · rintro i c t l led' I oI s hc ⟨D, cv, k, d, tb, tn, tnt, ch, rfl, hcv, hB, hsc, rfl⟩ S
      have hi : i < x.cps.toList.length := by simpa using (Array.getElem?_eq_some_iff.mp hc).1
      have hdrop : x.cps.toList.drop i = c :: x.cps.toList.drop (i + 1) := by
        rw [List.drop_eq_getElem_cons hi]
        congr 1
        have := (Array.getElem?_eq_some_iff.mp hc)
        simpa using this.2
      rw [hdrop] at hsc
      dsimp only [List.nil_append, List.cons_append] at S
      have hcl : cv.length = d.cnt.length := by rw [hcv.length]; simp [intsOf]
      have hxl : x.cps.toList.length = x.length := by simp [Str.length]
      have hn := hB.n
      have hb := hB.b
      have hl1 := hB.len
      refine wpAny_assign_Name (stL S V8 (by simp) ?_)
      clear S; intro s S; dsimp only [List.set] at S
      refine absQ ?_
      intro QT ET hQT _
      repeat' tb_start
      · rw [lit_sp, eq1, beq_iff_eq] at hc
        subst hc
        refine hQT _ _ ?_
        exact turnN (led' := [(D, { cls := .type "list", data := .seq cv.toArray k })]) S ⟨D, cv, k, ⟨d.cnt, d.b + 1, d.n + 1, d.nt⟩, _, _, _, _, rfl, hcv, hB.sp, by rw [← hsc]; simp [wscan], rfl⟩
      · have ec : c = 9 := by rw [lit_tab, eq1, beq_iff_eq] at hc; exact hc
        have hsc' : wscan (x.cps.toList.drop (i + 1)) ⟨bump d.cnt d.b, 0, d.n + 1, d.nt + 1⟩ = scan x.cps.toList := by rw [← hsc, ec]; simp [wscan]
        have hbd : (d.b : Int) < 2 ^ 63 := by omega
        refine lenL S (isL (S.N _ (.head _)).1) (Nat.le_trans (by simp; omega) (show 8000000 ≤ sizeLine by decide +kernel)) ?_
        clear S; intro t s S
        repeat' tb_start
        · have hge : d.b ≥ d.cnt.length := by simp at hc; omega
          refine newL S (show 1 ≤ sizeLine by decide +kernel) ?_
          clear S; intro D0 s S
          obtain ⟨t0, et0⟩ : ∃ t0, t0 = t := ⟨_, rfl⟩
          rw [← et0] at S
          repeat tb_start
          refine lenL S (isL (S.N (D, { cls := .type "list", data := .seq cv.toArray k }) (by simp)).1) (Nat.le_trans (by simp; omega) (show 8000000 ≤ sizeLine by decide +kernel)) ?_
          clear S; intro t s S
          repeat tb_start
          have ek : ((d.b : Int) - (cv.toArray.size : Int) + 1).toNat = d.b - d.cnt.length + 1 := by simp only [List.size_toArray]; omega
          refine mulL (ns := [0]) S (.head _) (by simp only [List.size_toArray]; omega) (by simp only [List.size_toArray]; omega) (by rw [ek]; simp only [List.length_cons, List.length_nil]; omega) (by simp) ?_
          clear S; intro D2 s S
          rw [ek, List.flatten_replicate_singleton] at S
          refine addL S (isL (S.N (D, { cls := .type "list", data := .seq cv.toArray k }) (by simp)).1) (isL (S.N _ (.head _)).1) (Nat.le_trans (by simp; omega) (show 8000000 ≤ sizeLine by decide +kernel)) ?_
          clear S; intro D' s S
          repeat tb_start
          have hcv' : IntsAre (cv ++ List.replicate (d.b - d.cnt.length + 1) (.int 0 t0)) (intsOf (bumpC d.cnt d.b)) := by
            unfold bumpC intsOf
            rw [if_pos hge, List.map_append, List.map_replicate]
            exact hcv.append (ints_rep _ _ _)
          have S := S.drop (led' := (D', lstO (cv ++ List.replicate (d.b - d.cnt.length + 1) (.int 0 t0))) :: (I, oI) :: (L, oL) :: (a, instObj 124 dx) :: (dx, dictOf [⟨h1, .str "raw" t1, .str x t₀⟩] 1) :: led) (.cons_cons _ (.cons _ (.cons _ (.cons _ (.refl _)))))
          generalize cv ++ List.replicate (d.b - d.cnt.length + 1) (.int 0 t0) = cv' at S hcv'
          one_item
        · have hlt : ¬ d.b ≥ d.cnt.length := by simp at hc; omega
          have hcv' : IntsAre cv (intsOf (bumpC d.cnt d.b)) := by unfold bumpC; rw [if_neg hlt]; exact hcv
          obtain ⟨cv', ecv⟩ : ∃ cv', cv' = cv := ⟨_, rfl⟩
          rw [← ecv] at S hcv'
          one_item
      · have ec1 : c ≠ 32 := fun e => absurd (by rw [e]; decide +kernel) (by assumption : ¬ ((⟨#[c]⟩ : Str) == Str.ofString " ") = true)
        have ec2 : c ≠ 9 := by rw [lit_tab, eq1, beq_iff_eq] at hc; exact hc
        refine hQT _ _ ?_
        refine turnB ?_
        show _ = _ ∧ _
        have hd : d = scan x.cps.toList := by rw [← hsc]; simp [wscan, ec1, ec2]
        rw [← hd]
        exact ⟨rfl, D, cv, k, _, _, _, _, _, _, hcv, ⟨by omega, hB.b, hB.nt, hB.len, hB.each⟩, S.drop (.cons_cons _ (.cons _ (.refl _)))⟩
    · rintro l led' s ⟨D, cv, k, d, tb, tn, tnt, ch, rfl, hcv, hB, hsc, rfl⟩ S
      have hd : d = scan x.cps.toList := by rw [← hsc, List.drop_of_length_le (by simp)]; rfl
      rw [← hd]
      exact ⟨rfl, D, cv, k, _, _, _, _, _, _, hcv, ⟨hB.n, hB.b, hB.nt, hB.len, hB.each⟩, S⟩
  · clear S
    rintro s ⟨D, cv, k, tS, tT, tb, tn, tnt, ch, hcv, hB, S⟩
    have hcl : cv.length = (scan x.cps.toList).cnt.length := by rw [hcv.length]; simp [intsOf]
    have hn := hB.n
    have hb := hB.b
    have hl1 := hB.len
    generalize scan x.cps.toList = d at *
    repeat tb_start
    refine setOwn [(D, _), (L, oL), (a, instObj 124 dx)] G S (by simp) (at_n _) (by rfl) (by simp) ?_
    clear S; intro h2 t2 s S
    repeat tb_start
    refine setOwn [(D, _), (L, oL), (a, instObj 124 dx)] G S (by simp) (at_nt _) (by rfl) (by simp) ?_
    clear S; intro h3 t3 s S
    repeat tb_start
    refine tupL S (isL (S.N _ (.head _)).1) (Nat.le_trans (by omega) (show 8000000 ≤ sizeLine by decide +kernel)) ?_
    clear S; intro Tc s S
    repeat tb_start
    refine newT S (show 2 ≤ sizeLine by decide +kernel) ?_
    clear S; intro Tn s S
    repeat tb_start
    refine setOwn [(Tn, _), (Tc, _), (D, _), (L, oL), (a, instObj 124 dx)] G S (by simp) (at_norm _) (by rfl) (by simp) ?_
    clear S; intro h4 t4 s S
    repeat tb_start
    refine lenL S (isL (S.N (D, { cls := .type "list", data := .seq cv.toArray k }) (by simp)).1) (Nat.le_trans (by simp; omega) (show 8000000 ≤ sizeLine by decide +kernel)) ?_
    clear S; intro t s S
    repeat tb_start
    refine setOwn [(Tn, _), (Tc, _), (D, _), (L, oL), (a, instObj 124 dx)] G S (by simp) (at_simple _) (by rfl) (by simp) ?_
    clear S; intro h5 t5 s S
    repeat tb_start
    have S := (S.drop (led' := (Tn, tupO [.ref Tc, .int d.b tb]) :: (Tc, tupO cv) :: (L, oL) :: (a, instObj 124 dx) :: (dx, _) :: led) (.cons_cons _ (.cons_cons _ (.cons _ (.refl _))))).perm (perm_mid [_, _] _ (L, oL))
    refine ⟨_, _, _, _, S, fun S => hQQ _ [(Tn, tupO [.ref Tc, .int d.b tb]), (Tc, tupO cv), (a, instObj 124 dx), (dx, _)] ?_ S⟩
    refine ⟨dx, _, _, Tn, Tc, cv, tb, .tail _ (.tail _ (.head _)), .tail _ (.tail _ (.tail _ (.head _))), .head _, .tail _ (.head _), hcv, ?_⟩
    refine ⟨⟨_, rfl⟩, ⟨_, rfl⟩, rfl, ?_, rfl, rfl, rfl, rfl, rfl⟩
    show some (some (Value.bool _)) = _
    congr 3
    simp only [List.size_toArray, hcl]
    apply decide_eq_decide.mpr
    omega
end
end
section
open PySem PySem.W PySem.Calls PyProof.Rows PySem.Spec PyProof.V
set_option maxRecDepth 100000
set_option maxHeartbeats 4000000
set_option linter.unusedVariables false

abbrev lsO (xs : List Value) (n : Nat) : Obj := { cls := .type "list", data := .seq xs.toArray n }
def wsLong (d : WsD) : Nat := max (d.cnt.length - 1) d.b
def ilStep (cnt : List Nat) (ts : Nat) (il j : Nat) : Nat := il + (ts + j) / ts * cnt.getD (ts + j) 0
def wsIl (cnt : List Nat) (ts : Nat) : Nat := (List.range (cnt.length - ts)).foldl (ilStep cnt ts) 0
def wsLvl (d : WsD) (ts : Nat) : Nat := d.b + ts * (wsIl d.cnt ts + d.nt)

theorem intBits_le {x : Int} (h : x.natAbs < 2 ^ 60) : Builtin.Int.intBits x ≤ 64 := by
  unfold Builtin.Int.intBits
  split
  · decide
  · rename_i hx
    have h0 : x.natAbs ≠ 0 := by
      intro e
      apply hx
      have : x = 0 := by omega
      rw [this]; rfl
    have := (Nat.log2_lt h0).mpr h
    omega

section
variable {w : World} {A : Around} {E : Value → Shared → Prop} {s : Shared} {h₀ : Heap} {os : OsG} {L : Addr} {vs : List Str} {l : List (Option Value)} {led : List (Addr × Obj)} {env : Env}

theorem rng2 {a b : Int} {t u : Tok} {Q : Value → Shared → Prop} (S : St h₀ os L vs l led s) (h : ∀ r v s', IsRange s'.heap r a b 1 t u v → St h₀ os L vs l led s' → Q (.ref r) s') : wpAny (model pw w) A (call (.type "range") [.int a t, .int b u]) Q E s :=
  call_range_2 (h _ s.toks _ (Heap.get?_push_size _ rfl) ((S.push (tk := s.toks + 1) _ (Nat.le_succ _)).drop (List.sublist_cons_self _ _)))
theorem rng1 {b : Int} {u : Tok} {Q : Value → Shared → Prop} (S : St h₀ os L vs l led s) (h : ∀ r t v s', IsRange s'.heap r 0 b 1 t u v → St h₀ os L vs l led s' → Q (.ref r) s') : wpAny (model pw w) A (call (.type "range") [.int b u]) Q E s :=
  call_range_1 (h _ _ _ _ (Heap.get?_push_size _ rfl) ((S.push (tk := s.toks + 1 + 1) _ (by omega)).drop (List.sublist_cons_self _ _)))

theorem wsNorm {a : Addr} {d : WsD} {expr : Bool} {Q : Value → Shared → Prop} (G : Gnd w h₀) (S : St h₀ os L vs l led s) (W : WsAt led a d)
    (h : ∀ tn tc cv tb s', (tn, tupO [.ref tc, .int d.b tb]) ∈ led → (tc, tupO cv) ∈ led → IntsAre cv (intsOf d.cnt) → St h₀ os L vs l led s' → Q (.ref tn) s') : wpAny (model pw w) A (getAttr (.ref a) "norm" expr) Q E s := by
  obtain ⟨dx, es, k, tn, tc, cv, tb, h1, h2, h3, h4, h5, h6⟩ := W
  exact getOwn G S h1 h2 (at_norm _) h6.norm (by rfl) fun s' S => h tn tc cv tb s' h3 h4 h5 S
theorem wsN {a : Addr} {d : WsD} {expr : Bool} {Q : Value → Shared → Prop} (G : Gnd w h₀) (S : St h₀ os L vs l led s) (W : WsAt led a d) (h : ∀ t s', St h₀ os L vs l led s' → Q (.int d.n t) s') : wpAny (model pw w) A (getAttr (.ref a) "n" expr) Q E s := by
  obtain ⟨dx, es, k, tn, tc, cv, tb, h1, h2, h3, h4, h5, h6⟩ := W
  obtain ⟨t, e⟩ := h6.n
  exact getOwn G S h1 h2 (at_n _) e (by rfl) (h t)
theorem wsNt {a : Addr} {d : WsD} {expr : Bool} {Q : Value → Shared → Prop} (G : Gnd w h₀) (S : St h₀ os L vs l led s) (W : WsAt led a d) (h : ∀ t s', St h₀ os L vs l led s' → Q (.int d.nt t) s') : wpAny (model pw w) A (getAttr (.ref a) "nt" expr) Q E s := by
  obtain ⟨dx, es, k, tn, tc, cv, tb, h1, h2, h3, h4, h5, h6⟩ := W
  obtain ⟨t, e⟩ := h6.nt
  exact getOwn G S h1 h2 (at_nt _) e (by rfl) (h t)
theorem wsSimple {a : Addr} {d : WsD} {expr : Bool} {Q : Value → Shared → Prop} (G : Gnd w h₀) (S : St h₀ os L vs l led s) (W : WsAt led a d) (h : ∀ s', St h₀ os L vs l led s' → Q (.bool (decide (d.cnt.length ≤ 1))) s') : wpAny (model pw w) A (getAttr (.ref a) "is_simple" expr) Q E s := by
  obtain ⟨dx, es, k, tn, tc, cv, tb, h1, h2, h3, h4, h5, h6⟩ := W
  exact getOwn G S h1 h2 (at_simple _) h6.simple (by rfl) h
theorem wsMeth {a f : Addr} {d : WsD} {name : Str} {pl : Sem Bool} {Q : Value × List Value → Shared → Prop} (G : Gnd w h₀) (S : St h₀ os L vs l led s) (W : WsAt led a d)
    (m : MethOk (KF w.params) 124 name f) (hm : ∀ es tn, WsEs es d tn → getL name es = some none) (h : Q (.ref f, [.ref a]) s) : wpAny (model pw w) A (getMethod (.ref a) name pl) Q E s := by
  obtain ⟨dx, es, k, tn, tc, cv, tb, h1, h2, h3, h4, h5, h6⟩ := W
  exact gmInst G S h1 h2 m (hm _ _ h6) h

theorem kqd_eqb {n : Nat} {d e : Dat} (ha : kqdOk n d = true) (hb : kqdOk n e = true) {r : Bool} (hr : r = true ↔ d = e) : PyData.eqv (kqdP d) (kqdP e) = r := by
  have q := kqd_eqv n d e n ha hb
  cases r with
  | true => exact q.mpr (hr.mp rfl)
  | false => exact Bool.eq_false_iff.mpr fun x => absurd (hr.mpr (q.mp x)) (by decide)
theorem kqd_shaped {n : Nat} (hn : n ≤ 9) {d : Dat} (ha : kqdOk n d = true) : SeqAt.shaped (kqdP d) = true := by
  have la := kqd_lay n d ha
  unfold SeqAt.shaped
  rw [la.1, Bool.true_and]
  exact decide_eq_true (Nat.le_trans la.2 (Nat.le_trans hn (by decide)))
theorem eqDat {a b : Value} {d e : Dat} {r : Bool} {Q : Value → Shared → Prop} (S : St h₀ os L vs l led s) (Da : DatIn led a d) (Db : DatIn led b e) (ha : kqdOk 9 d = true) (hb : kqdOk 9 e = true) (hu : A.units + 64 < cLine) (hr : r = true ↔ d = e)
    (h : Q (.bool r) s) : wpAny (model pw w) A (compareOp .Eq a b) Q E s := by
  obtain ⟨as, ra⟩ := kqd_in S.N 9 Da ha
  obtain ⟨bs, rb⟩ := kqd_in S.N 9 Db hb
  exact eq_dataH ra rb (kqd_shaped (Nat.le_refl _) ha) (kqd_shaped (Nat.le_refl _) hb) hu (by rw [kqd_eqb ha hb hr]; exact h)
theorem neDat {a b : Value} {d e : Dat} {r : Bool} {Q : Value → Shared → Prop} (S : St h₀ os L vs l led s) (Da : DatIn led a d) (Db : DatIn led b e) (ha : kqdOk 9 d = true) (hb : kqdOk 9 e = true) (hu : A.units + 64 < cLine) (hr : r = true ↔ d = e)
    (h : Q (.bool (!r)) s) : wpAny (model pw w) A (compareOp .NotEq a b) Q E s := by
  obtain ⟨as, ra⟩ := kqd_in S.N 9 Da ha
  obtain ⟨bs, rb⟩ := kqd_in S.N 9 Db hb
  exact ne_dataH ra rb (kqd_shaped (Nat.le_refl _) ha) (kqd_shaped (Nat.le_refl _) hb) hu (by rw [kqd_eqb ha hb hr]; exact h)
theorem datInts {news : List (Addr × Obj)} : ∀ {cv : List Value} {ns : List Int}, IntsAre cv ns → DatAll news cv (ns.map .int)
  | _, _, .nil => .nil
  | _, _, .cons n t h => .cons (.int n t) (datInts h)
theorem map_int_inj : ∀ {a b : List Nat}, (intsOf a).map Dat.int = (intsOf b).map Dat.int → a = b
  | [], [], _ => rfl
  | [], _ :: _, h => by cases h
  | _ :: _, [], h => by cases h
  | x :: a, y :: b, h => by
    simp only [intsOf, List.map_cons, List.cons.injEq, Dat.int.injEq, Int.natCast_inj] at h
    rw [h.1, map_int_inj (a := a) (b := b) h.2]
theorem appL {D : Addr} {xs : List Value} {n : Nat} {v : Value} {Q : Value → Shared → Prop} (S : St h₀ os L vs l ((D, lsO xs n) :: led) s) (hsz : xs.length ≤ 8000000)
    (h : ∀ s', St h₀ os L vs l ((D, lsO (xs ++ [v]) (n + 1)) :: led) s' → Q .none s') : wpAny (model pw w) A (call (.builtin "list.append") [.ref D, v]) Q E s :=
  append_at (S.N _ (.head _)).1 (fun h' hk ho => h _ (S.upd (tk := s.toks) hk (by rw [ho]; simp) (Nat.le_refl _))) (Nat.le_trans (by simpa using hsz) (show 8000000 ≤ sizeLine by decide +kernel))
theorem popL {D : Addr} {xs : List Value} {n : Nat} {v : Value} {Q : Value → Shared → Prop} (S : St h₀ os L vs l ((D, lsO (xs ++ [v]) n) :: led) s) (hsz : xs.length ≤ 7000000)
    (h : ∀ s', St h₀ os L vs l ((D, lsO xs (n + 1)) :: led) s' → Q v s') : wpAny (model pw w) A (call (.builtin "list.pop") [.ref D]) Q E s :=
  Copied.pop_at (S.N _ (.head _)).1 (by simp) (fun h' hk ho => h _ (S.upd (tk := s.toks) hk (by rw [ho]; simp) (Nat.le_refl _))) (Nat.le_trans (by simp; omega) (show 8000000 ≤ sizeLine by decide +kernel))
theorem gmListAppend {a : Addr} {items : Array Value} {n : Nat} {M : Model} {pl : Sem Bool} {Q : Value × List Value → Shared → Prop}
    (ho : s.heap.get? a = some { cls := .type "list", data := .seq items n }) (h : Q (.builtin "list.append", [.ref a]) s) : wpAny M A (getMethod (.ref a) "append" pl) Q E s :=
  gmList F.slot_list_append (by kernel_rfl) ho h
theorem gmListPop {a : Addr} {items : Array Value} {n : Nat} {M : Model} {pl : Sem Bool} {Q : Value × List Value → Shared → Prop}
    (ho : s.heap.get? a = some { cls := .type "list", data := .seq items n }) (h : Q (.builtin "list.pop", [.ref a]) s) : wpAny M A (getMethod (.ref a) "pop" pl) Q E s :=
  gmList F.slot_list_pop (by kernel_rfl) ho h
theorem forRok {M : Model} {f : Flow} {Q : Flow → Shared → Prop} (h : Q f s) : ForR M A env Q E (.ok f) s := h
theorem lenT {a : Addr} {xs : List Value} {Q : Value → Shared → Prop} (S : St h₀ os L vs l led s) (hm : (a, tupO xs) ∈ led) (hsz : xs.length ≤ 8000000) (h : ∀ t s', St h₀ os L vs l led s' → Q (.int xs.length t) s') : wpAny (model pw w) A (call (.builtin "len") [.ref a]) Q E s :=
  PyProof.Rows.len_tuple (items := xs.toArray) ⟨_, (S.N _ hm).1, rfl, _, rfl⟩ (by simp; omega) (by have := h (s.toks + 1) _ (S.toks (tk := s.toks + 1 + 1) (Nat.succ_pos _)); simpa using this)
theorem c_long {a : Addr} {d : WsD} {Q : Value → Shared → Prop} (G : Gnd w h₀) (S : St h₀ os L vs l led s) (O : AOk A 2 20) (W : WsAt led a d) (hd : d.cnt.length ≤ 100000)
    (h : ∀ t s', St h₀ os L vs l led s' → Q (.int (wsLong d) t) s') :
    wpAny (model pw w) A (call (.ref 86) [.ref a]) Q E s := by
  have K := fn_wslong w.params (.ref a)
  refine call_fn K rs_wslong G S (by have := O.dp; omega) ?_
  clear S
  intro L' oL s₁ S
  have W := W.mono (led' := (L, oL) :: led) fun p hp => .tail _ hp
  have V0 := sl_wslong_self w.params L'
  have V1 := sl_wslong_count w.params L'
  have V2 := sl_wslong_trailing w.params L'
  have O := O.deeper (env := callEnv (fdOf w.params 86) L' 86)
  dsimp only [List.map, List.replicate, List.cons_append, List.nil_append, List.append_nil, List.length] at S
  refine seqI ?_
  refine Assign_Tuple ?_ (by with_unfolding_all rfl) (by with_unfolding_all rfl)
  repeat tb_start
  refine wsNorm G S W ?_
  clear S; intro tn tc cv tb s hn hc hcv S
  refine unpT O.hd S hn (by with_unfolding_all rfl) (by with_unfolding_all rfl) ?_
  clear S; intro s S
  refine inOrder_cons ?_
  repeat tb_start
  refine inOrder_cons ?_
  repeat tb_start
  refine inOrder_nil ?_
  repeat tb_start
  have hlen : cv.length = d.cnt.length := by rw [hcv.length]; simp [intsOf]
  refine lenT S hc (by omega) ?_
  clear S; intro t s S
  repeat tb_start
  refine maxI O.hd S ?_
  clear S; intro t s S
  repeat tb_start
  have e : (if (d.b : Int) > (cv.length : Int) - 1 then (d.b : Int) else (cv.length : Int) - 1) = (wsLong d : Nat) := by
    unfold wsLong; split <;> omega
  rw [e]
  exact h _ _ S

theorem c_level {a : Addr} {d : WsD} {ts : Nat} {u : Tok} {Q : Value → Shared → Prop} (G : Gnd w h₀) (S : St h₀ os L vs l led s) (O : AOk A 2 20) (W : WsAt led a d) (hd : d.cnt.length ≤ 100000) (h1 : 1 ≤ ts) (h2 : ts ≤ 100001)
    (h : ∀ t s', St h₀ os L vs l led s' → Q (.int (wsLvl d ts) t) s') :
    wpAny (model pw w) A (call (.ref 93) [.ref a, .int ts u]) Q E s := by
  have K := fn_wsind w.params (.ref a) (.int ts u)
  refine call_fn K rs_wsind G S (by have := O.dp; omega) ?_
  clear S
  intro L' oL s₁ S
  have W := W.mono (led' := (L, oL) :: led) fun p hp => .tail _ hp
  have V0 := sl_wsind_self w.params L'
  have V1 := sl_wsind_tabsize w.params L'
  have V2 := sl_wsind_count w.params L'
  have V3 := sl_wsind_trailing w.params L'
  have V4 := sl_wsind_il w.params L'
  have V5 := sl_wsind_i w.params L'
  have O := O.deeper (env := callEnv (fdOf w.params 93) L' 93)
  dsimp only [List.map, List.replicate, List.cons_append, List.nil_append, List.append_nil, List.length] at S
  refine seqI ?_
  refine Assign_Tuple ?_ (by with_unfolding_all rfl) (by with_unfolding_all rfl)
  repeat tb_start
  refine wsNorm G S W ?_
  clear S; intro tn tc cv tb s hn hc hcv S
  refine unpT O.hd S hn (by with_unfolding_all rfl) (by with_unfolding_all rfl) ?_
  clear S; intro s S
  refine inOrder_cons ?_
  repeat tb_start
  refine inOrder_cons ?_
  repeat tb_start
  refine inOrder_nil ?_
  have hlen : cv.length = d.cnt.length := by rw [hcv.length]; simp [intsOf]
  repeat tb_start
  refine wpFor (by intro _; rfl) ?_
  repeat tb_start
  refine lenT S hc (by omega) ?_
  clear S; intro t s S
  refine rng2 S ?_
  clear S; intro r v s hr S
  refine forRange (led₀ := []) (fun i l led' => led' = [] ∧ ∃ ti vi, l = [some (.ref a), some (.int ts u), some (.ref tc), some (.int d.b tb), some (.int ((List.range i).foldl (ilStep d.cnt ts) 0 : Nat) ti), vi]) O.hd S ⟨rfl, _, _, rfl⟩ hr (PySem.small_one (by omega) (by omega) (by omega) (by omega)) ?_ ?_
  · rintro i t l led' I oI s hi ⟨rfl, ti, vi, rfl⟩ S
    dsimp only [List.nil_append] at S
    have hi' : ts + i < d.cnt.length := by omega
    repeat tb_start
    refine divI S (by omega) (PyProof.noPylong_small (by omega)) ?_
    clear S; intro t s S
    repeat tb_start
    obtain ⟨t3, e3⟩ := hcv.get (ts + i) (d.cnt.getD (ts + i) 0 : Nat) (by unfold intsOf; rw [List.getElem?_map, List.getD_eq_getElem?_getD, List.getElem?_eq_getElem hi']; rfl)
    refine tIdx S (.tail _ hc) (by with_unfolding_all rfl) (by omega) (by omega) (v := .int (d.cnt.getD (ts + i) 0 : Nat) t3) (by rw [← e3]; congr 1) ?_
    have hq : ((ts : Int) + (i : Nat)).fdiv ts = ((ts + i) / ts : Nat) := by
      rw [← Int.natCast_add, Int.fdiv_eq_ediv_of_nonneg _ (by omega)]
      exact (Int.natCast_ediv _ _).symm
    rw [hq]
    have hle : (ts + i) / ts ≤ ts + i := Nat.div_le_self _ _
    refine mulI S (IntMulOk.of_left (intBits_le (by rw [Int.natAbs_natCast]; omega))) ?_
    clear S; intro t s S
    repeat tb_start
    refine turnN (led' := []) S ⟨rfl, t, ?vi, ?eq⟩
    case eq =>
      rw [List.range_succ, List.foldl_append]
      exact rfl
  · rintro l led' s ⟨rfl, ti, vi, rfl⟩ S
    have ek : ((cv.length : Int) - (ts : Int)).toNat = d.cnt.length - ts := by omega
    rw [ek] at S
    dsimp only [List.nil_append] at S
    repeat tb_start
    refine wsNt G S W ?_
    clear S; intro t s S
    repeat tb_start
    refine mulI S (IntMulOk.of_left (intBits_le (by rw [Int.natAbs_natCast]; omega))) ?_
    clear S; intro t s S
    repeat tb_start
    exact h _ _ S

theorem c_equal {a b : Addr} {d e : WsD} {Q : Value → Shared → Prop} (G : Gnd w h₀) (S : St h₀ os L vs l led s) (O : AOk A 2 100) (W : WsAt led a d) (W' : WsAt led b e)
    (h : ∀ s', St h₀ os L vs l led s' → Q (.bool (decide (d.cnt = e.cnt ∧ d.b = e.b))) s') :
    wpAny (model pw w) A (call (.ref 100) [.ref a, .ref b]) Q E s := by
  have K := fn_wseq w.params (.ref a) (.ref b)
  refine call_fn K rs_wseq G S (by have := O.dp; omega) ?_
  clear S
  intro L' oL s₁ S
  have W := W.mono (led' := (L, oL) :: led) fun p hp => .tail _ hp
  have W' := W'.mono (led' := (L, oL) :: led) fun p hp => .tail _ hp
  have V0 := sl_wseq_self w.params L'
  have V1 := sl_wseq_other w.params L'
  have O := O.deeper (env := callEnv (fdOf w.params 100) L' 100)
  dsimp only [List.map, List.replicate, List.cons_append, List.nil_append, List.append_nil, List.length] at S
  refine seqI ?_
  repeat tb_start
  refine wsNorm G S W ?_
  clear S; intro tn tc cv tb s hn hc hcv S
  repeat tb_start
  refine wsNorm G S W' ?_
  clear S; intro tn' tc' cv' tb' s hn' hc' hcv' S
  repeat tb_start
  refine eqDat S (d := .tuple [.tuple ((intsOf d.cnt).map .int), .int d.b]) (e := .tuple [.tuple ((intsOf e.cnt).map .int), .int e.b]) (r := decide (d.cnt = e.cnt ∧ d.b = e.b)) (.tuple hn (.cons (.tuple hc (datInts hcv)) (.cons (.int _ _) .nil))) (.tuple hn' (.cons (.tuple hc' (datInts hcv')) (.cons (.int _ _) .nil)))
    (by simp [kqdOk]) (by simp [kqdOk]) (by have := O.un; omega) ?_ ?_
  · rw [decide_eq_true_iff]
    simp only [Dat.tuple.injEq, List.cons.injEq, Dat.int.injEq, and_true, Int.natCast_inj]
    exact ⟨fun ⟨a, b⟩ => ⟨by rw [a], b⟩, fun ⟨a, b⟩ => ⟨map_int_inj a, b⟩⟩
  repeat tb_start
  exact h _ S

theorem isAndB {M : Model} {x y : Expr} {pos : Pos} {whole : Sem Value} {bx by_ : Bool} {P : Shared → Prop} {Q : Bool → Shared → Prop} (h : wpAny M A (isTrue x env (eval x env)) (fun b s₁ => b = bx ∧ P s₁) E s)
    (h2 : ∀ s, P s → wpAny M A (isTrue y env (eval y env)) (fun b s₁ => b = by_ ∧ P s₁) E s) (k : ∀ s, P s → Q (bx && by_) s) : wpAny M A (isTrue (.BoolOp .And [x, y] pos) env whole) Q E s := by
  refine isAnd2 (wpAny_mono h (fun b s₁ h₁ => ?_) fun _ _ e => e)
  obtain ⟨rfl, hp⟩ := h₁
  cases b with
  | false => exact k _ hp
  | true => exact wpAny_mono (h2 _ hp) (fun b s₂ q => by obtain ⟨rfl, hp⟩ := q; exact k _ hp) fun _ _ e => e
/-! ### less -/
def wsLess (d e : WsD) : Bool := if d.n ≥ e.n then false else if d.cnt.length ≤ 1 ∧ e.cnt.length ≤ 1 then decide (d.nt ≤ e.nt) else (List.range (max (wsLong d) (wsLong e))).all fun j => decide (wsLvl d (2 + j) < wsLvl e (2 + j))

theorem c_less {a b : Addr} {d e : WsD} {Q : Value → Shared → Prop} (G : Gnd w h₀) (S : St h₀ os L vs l led s) (O : AOk A 3 40) (W : WsAt led a d) (W' : WsAt led b e) (hd : WsB d 100000) (he : WsB e 100000)
    (h : ∀ s', St h₀ os L vs l led s' → Q (.bool (wsLess d e)) s') :
    wpAny (model pw w) A (call (.ref 114) [.ref a, .ref b]) Q E s := by
  have d1 := hd.n
  have d2 := hd.b
  have d4 := hd.len
  have e1 := he.n
  have e2 := he.b
  have e4 := he.len
  have K := fn_wsless w.params (.ref a) (.ref b)
  refine call_fn K rs_wsless G S (by have := O.dp; omega) ?_
  clear S
  intro L' oL s₁ S
  have W := W.mono (led' := (L, oL) :: led) fun p hp => .tail _ hp
  have W' := W'.mono (led' := (L, oL) :: led) fun p hp => .tail _ hp
  have V0 := sl_wsless_self w.params L'
  have V1 := sl_wsless_other w.params L'
  have V2 := sl_wsless_n w.params L'
  have V3 := sl_wsless_ts w.params L'
  have O := O.deeper (env := callEnv (fdOf w.params 114) L' 114)
  dsimp only [List.map, List.replicate, List.cons_append, List.nil_append, List.append_nil, List.length] at S
  refine seqI ?_
  repeat tb_start
  refine wsN G S W ?_
  clear S; intro t s S
  repeat tb_start
  refine wsN G S W' ?_
  clear S; intro t s S
  repeat' tb_start
  · have : wsLess d e = false := by unfold wsLess; rw [if_pos (by simpa using hc)]
    rw [this] at h
    exact h _ S
  have hc0 : ¬ d.n ≥ e.n := by simpa using hc
  refine isAndB (P := St h₀ os L' vs_wsless [some (.ref a), some (.ref b), none, none] ((L, oL) :: led)) (bx := decide (d.cnt.length ≤ 1)) (by_ := decide (e.cnt.length ≤ 1)) ?_ ?_ ?_
  · repeat tb_start
    refine wsSimple G S W ?_
    clear S; intro s S
    repeat tb_start
    exact ⟨rfl, S⟩
  · clear S; intro s S
    repeat tb_start
    refine wsSimple G S W' ?_
    clear S; intro s S
    repeat tb_start
    exact ⟨rfl, S⟩
  clear S; intro s S
  repeat' tb_start
  · refine wsNt G S W ?_
    clear S; intro t s S
    repeat tb_start
    refine wsNt G S W' ?_
    clear S; intro t s S
    repeat tb_start
    have : wsLess d e = decide ((d.nt : Int) ≤ e.nt) := by unfold wsLess; rw [if_neg hc0, if_pos (by simpa using hc)]; simp
    rw [this] at h
    exact h _ S
  have hc1 : ¬ (d.cnt.length ≤ 1 ∧ e.cnt.length ≤ 1) := by simpa using hc
  have hw : wsLess d e = (List.range (max (wsLong d) (wsLong e))).all fun j => decide (wsLvl d (2 + j) < wsLvl e (2 + j)) := by unfold wsLess; rw [if_neg hc0, if_neg hc1]
  intro pl
  refine wsMeth G S W (me_long _) (fun _ _ h => h.m1) ?_
  repeat tb_start
  refine c_long G S (O.le (by omega) (by omega)) W (by omega) ?_
  clear S; intro t s S
  repeat tb_start
  intro pl
  refine wsMeth G S W' (me_long _) (fun _ _ h => h.m1) ?_
  repeat tb_start
  refine c_long G S (O.le (by omega) (by omega)) W' (by omega) ?_
  clear S; intro t s S
  repeat tb_start
  refine maxI O.hd S ?_
  clear S; intro t s S
  have em : (if ((wsLong e : Nat) : Int) > (wsLong d : Nat) then ((wsLong e : Nat) : Int) else (wsLong d : Nat)) = (max (wsLong d) (wsLong e) : Nat) := by split <;> omega
  rw [em]
  have hm : max (wsLong d) (wsLong e) ≤ 100000 := by unfold wsLong; omega
  generalize max (wsLong d) (wsLong e) = m at hm hw
  repeat tb_start
  refine wpFor (by intro _; rfl) ?_
  repeat tb_start
  refine rng2 S ?_
  clear S; intro r v s hr S
  have ek : (((m : Int) + 1 + 1) - 2).toNat = m := by omega
  refine forRange (led₀ := []) (fun i l led' => led' = [] ∧ (∀ j, j < i → wsLvl d (2 + j) < wsLvl e (2 + j)) ∧ ∃ tn vi, l = [some (.ref a), some (.ref b), some (.int ((m : Int) + 1) tn), vi]) O.hd S ⟨rfl, nofun, _, _, rfl⟩ hr (PySem.small_one (by omega) (by omega) (by omega) (by omega)) ?_ ?_
  · rintro i t l led' I oI s hi ⟨rfl, hlt, tn, vi, rfl⟩ S
    have W := W.mono (led' := [] ++ (I, oI) :: (L, oL) :: led) fun p hp => .tail _ hp
    have W' := W'.mono (led' := [] ++ (I, oI) :: (L, oL) :: led) fun p hp => .tail _ hp
    dsimp only [List.nil_append] at S W W'
    have e2i : (2 : Int) + (i : Nat) = ((2 + i : Nat) : Int) := by omega
    rw [e2i]
    repeat tb_start
    intro pl
    refine wsMeth G S W (me_ind _) (fun _ _ h => h.m2) ?_
    repeat tb_start
    refine c_level G S (O.le (by omega) (by omega)) W (by omega) (by omega) (by omega) ?_
    clear S; intro t s S
    repeat tb_start
    intro pl
    refine wsMeth G S W' (me_ind _) (fun _ _ h => h.m2) ?_
    repeat tb_start
    refine c_level G S (O.le (by omega) (by omega)) W' (by omega) (by omega) (by omega) ?_
    clear S; intro t s S
    repeat' tb_start
    · refine turnR ?_
      refine forRok ?_
      refine thenR ?_
      have : wsLess d e = false := by
        rw [hw, Bool.eq_false_iff]
        intro q
        have := List.all_eq_true.mp q i (List.mem_range.mpr (by omega))
        simp at this hc
        omega
      rw [this] at h
      exact ⟨_, _, _, _, S.drop (List.sublist_cons_self _ _), fun S => h _ S⟩
    · refine turnN (led' := []) S ⟨rfl, ?_, tn, ?vi, ?eq⟩
      case eq => exact rfl
      intro j hj
      simp at hc
      rcases Nat.lt_succ_iff_lt_or_eq.mp hj with hj | rfl
      · exact hlt j hj
      · omega
  · rintro l led' s ⟨rfl, hlt, tn, vi, rfl⟩ S
    rw [ek] at hlt
    dsimp only [List.nil_append] at S
    repeat tb_start
    have : wsLess d e = true := by
      rw [hw, List.all_eq_true]
      intro j hj
      exact decide_eq_true (hlt j (List.mem_range.mp hj))
    rw [this] at h
    exact h _ S

/-! ### the witness -/
def wsWit (d e : WsD) : List Nat := ((List.range (max (wsLong d) (wsLong e) + 1)).map (· + 1)).filter fun ts => decide (wsLvl d ts ≠ wsLvl e ts)
def Wits (led : List (Addr × Obj)) : List Value → List Nat → Prop
  | [], [] => True
  | v :: vs, n :: ns => (∃ T t x y, v = .ref T ∧ (T, tupO [.int n t, x, y]) ∈ led) ∧ Wits led vs ns
  | _, _ => False
theorem Wits.mono {led led' : List (Addr × Obj)} (q : ∀ p ∈ led, p ∈ led') : ∀ {vs : List Value} {ns : List Nat}, Wits led vs ns → Wits led' vs ns
  | [], [], _ => trivial
  | v :: vs, n :: ns, ⟨⟨T, t, x, y, e, m⟩, r⟩ => ⟨⟨T, t, x, y, e, q _ m⟩, r.mono q⟩
  | [], _ :: _, h => h.elim
  | _ :: _, [], h => h.elim
theorem Wits.app {led : List (Addr × Obj)} {T : Addr} {t : Tok} {x y : Value} {n : Nat} (hm : (T, tupO [.int n t, x, y]) ∈ led) : ∀ {vs : List Value} {ns : List Nat}, Wits led vs ns → Wits led (vs ++ [.ref T]) (ns ++ [n])
  | [], [], _ => ⟨⟨T, t, x, y, rfl, hm⟩, trivial⟩
  | v :: vs, n :: ns, ⟨a, r⟩ => ⟨a, r.app hm⟩
  | [], _ :: _, h => h.elim
  | _ :: _, [], h => h.elim
theorem Wits.len {led : List (Addr × Obj)} : ∀ {vs : List Value} {ns : List Nat}, Wits led vs ns → vs.length = ns.length
  | [], [], _ => rfl
  | v :: vs, n :: ns, ⟨a, r⟩ => by simp [r.len]
  | [], _ :: _, h => h.elim
  | _ :: _, [], h => h.elim

theorem c_wit {a b : Addr} {d e : WsD} {Q : Value → Shared → Prop} (G : Gnd w h₀) (S : St h₀ os L vs l led s) (O : AOk A 3 40) (W : WsAt led a d) (W' : WsAt led b e) (hd : WsB d 100000) (he : WsB e 100000)
    (h : ∀ D xs k cells s', Wits cells xs (wsWit d e) → (D, lsO xs k) ∈ cells → St h₀ os L vs l (cells ++ led) s' → Q (.ref D) s') :
    wpAny (model pw w) A (call (.ref 107) [.ref a, .ref b]) Q E s := by
  have d1 := hd.n
  have d2 := hd.b
  have d4 := hd.len
  have e1 := he.n
  have e2 := he.b
  have e4 := he.len
  have K := fn_wswit w.params (.ref a) (.ref b)
  refine call_fn K rs_wswit G S (by have := O.dp; omega) ?_
  clear S
  intro L' oL s₁ S
  have W := W.mono (led' := (L, oL) :: led) fun p hp => .tail _ hp
  have W' := W'.mono (led' := (L, oL) :: led) fun p hp => .tail _ hp
  have V0 := sl_wswit_self w.params L'
  have V1 := sl_wswit_other w.params L'
  have V2 := sl_wswit_n w.params L'
  have V3 := sl_wswit_a w.params L'
  have V4 := sl_wswit_ts w.params L'
  have O := O.deeper (env := callEnv (fdOf w.params 107) L' 107)
  dsimp only [List.map, List.replicate, List.cons_append, List.nil_append, List.append_nil, List.length] at S
  refine seqI ?_
  repeat tb_start
  intro pl
  refine wsMeth G S W (me_long _) (fun _ _ h => h.m1) ?_
  repeat tb_start
  refine c_long G S (O.le (by omega) (by omega)) W (by omega) ?_
  clear S; intro t s S
  repeat tb_start
  intro pl
  refine wsMeth G S W' (me_long _) (fun _ _ h => h.m1) ?_
  repeat tb_start
  refine c_long G S (O.le (by omega) (by omega)) W' (by omega) ?_
  clear S; intro t s S
  repeat tb_start
  refine maxI O.hd S ?_
  clear S; intro t s S
  have em : (if ((wsLong e : Nat) : Int) > (wsLong d : Nat) then ((wsLong e : Nat) : Int) else (wsLong d : Nat)) = (max (wsLong d) (wsLong e) : Nat) := by split <;> omega
  rw [em]
  have hm : max (wsLong d) (wsLong e) ≤ 100000 := by unfold wsLong; omega
  have hwit : wsWit d e = ((List.range (max (wsLong d) (wsLong e) + 1)).map (· + 1)).filter fun ts => decide (wsLvl d ts ≠ wsLvl e ts) := rfl
  generalize max (wsLong d) (wsLong e) = m at hm hwit
  repeat tb_start
  refine newL S (Nat.zero_le _) ?_
  clear S; intro D s S
  repeat tb_start
  refine wpFor (by intro _; rfl) ?_
  repeat tb_start
  refine rng2 S ?_
  clear S; intro r v s hr S
  have ek : (((m : Int) + 1 + 1) - 1).toNat = m + 1 := by omega
  refine forRange (led₀ := [(D, lsO [] 0)]) (fun i l led' => ∃ xs k cells tn vi, led' = (D, lsO xs k) :: cells ∧ xs.length ≤ i ∧ Wits cells xs (((List.range i).map (· + 1)).filter fun ts => decide (wsLvl d ts ≠ wsLvl e ts)) ∧
    l = [some (.ref a), some (.ref b), some (.int ((m : Int) + 1) tn), some (.ref D), vi]) O.hd S ⟨[], 0, [], _, _, rfl, Nat.le_refl _, trivial, rfl⟩ hr (PySem.small_one (by omega) (by omega) (by omega) (by omega)) ?_ ?_
  · rintro i t l led' I oI s hi ⟨xs, k, cells, tn, vi, rfl, hxs, hw, rfl⟩ S
    have W := W.mono (led' := (D, lsO xs k) :: cells ++ (I, oI) :: (L, oL) :: led) fun p hp => List.mem_append_right _ (.tail _ hp)
    have W' := W'.mono (led' := (D, lsO xs k) :: cells ++ (I, oI) :: (L, oL) :: led) fun p hp => List.mem_append_right _ (.tail _ hp)
    dsimp only [List.cons_append] at S W W'
    have e2i : (1 : Int) + (i : Nat) = ((i + 1 : Nat) : Int) := by omega
    have hrg : ((List.range (i + 1)).map (· + 1)).filter (fun ts => decide (wsLvl d ts ≠ wsLvl e ts)) = ((List.range i).map (· + 1)).filter (fun ts => decide (wsLvl d ts ≠ wsLvl e ts)) ++ (if wsLvl d (i + 1) ≠ wsLvl e (i + 1) then [i + 1] else []) := by
      rw [List.range_succ, List.map_append, List.filter_append]
      congr 1
      simp only [List.map_cons, List.map_nil, List.filter_cons, List.filter_nil, decide_eq_true_eq]
    rw [e2i]
    repeat tb_start
    intro pl
    refine wsMeth G S W (me_ind _) (fun _ _ h => h.m2) ?_
    repeat tb_start
    refine c_level G S (O.le (by omega) (by omega)) W (by omega) (by omega) (by omega) ?_
    clear S; intro t s S
    repeat tb_start
    intro pl
    refine wsMeth G S W' (me_ind _) (fun _ _ h => h.m2) ?_
    repeat tb_start
    refine c_level G S (O.le (by omega) (by omega)) W' (by omega) (by omega) (by omega) ?_
    clear S; intro t s S
    repeat' tb_start
    · intro pl
      refine gmListAppend (a := D) (n := k) (items := xs.toArray) ((S.N _ (.head _)).1) ?_
      repeat tb_start
      intro pl
      refine wsMeth G S W (me_ind _) (fun _ _ h => h.m2) ?_
      repeat tb_start
      refine c_level G S (O.le (by omega) (by omega)) W (by omega) (by omega) (by omega) ?_
      clear S; intro t s S
      repeat tb_start
      intro pl
      refine wsMeth G S W' (me_ind _) (fun _ _ h => h.m2) ?_
      repeat tb_start
      refine c_level G S (O.le (by omega) (by omega)) W' (by omega) (by omega) (by omega) ?_
      clear S; intro t s S
      refine newT S (show 3 ≤ sizeLine by decide +kernel) ?_
      clear S; intro T s S
      repeat tb_start
      have S := S.perm (.swap _ _ _)
      refine appL S (by omega) ?_
      clear S; intro s S
      repeat tb_start
      refine turnN (led' := (D, lsO (xs ++ [.ref T]) (k + 1)) :: (T, _) :: cells) S ⟨_, _, _, tn, ?vi, rfl, ?_, ?_, ?eq⟩
      case eq => exact rfl
      · simp; omega
      · rw [hrg, if_pos (by simp at hc; omega)]
        exact (hw.mono fun _ h => .tail _ h).app (.head _)
    · refine turnN (led' := (D, lsO xs k) :: cells) S ⟨xs, k, cells, tn, ?vi, rfl, ?_, ?_, ?eq⟩
      case eq => exact rfl
      · omega
      · rw [hrg, if_neg (by simp at hc; omega), List.append_nil]
        exact hw
  · rintro l led' s ⟨xs, k, cells, tn, vi, rfl, hxs, hw, rfl⟩ S
    rw [ek] at hw
    dsimp only [List.cons_append] at S
    repeat tb_start
    have S := S.perm (perm_mid ((D, lsO xs k) :: cells) led (L, oL))
    exact ⟨_, _, _, _, S, fun S => h D xs k ((D, lsO xs k) :: cells) _ (by rw [hwit]; exact hw.mono fun _ h => .tail _ h) (.head _) S⟩
end
end
section
open PySem PySem.W PySem.Calls PyProof.Rows PySem.Spec PyProof.V
set_option maxRecDepth 100000
set_option maxHeartbeats 4000000
set_option linter.unusedVariables false

/-- a table of inner codes -/
abbrev Tab := { ps : Array Value // TriplesOk ps.toList }
abbrev tabO (ps : Tab) : Obj := { cls := .none, data := .fields ps.1 }
/-- the code of format_witnesses and its table of inner codes, which is not in the base -/
structure GndC (h₀ : Heap) : Prop where
  code : ∀ (h : Heap) (ps : Tab), (∀ b o, h₀.get? b = some o → h.get? b = some o) → h.get? 130 = some (tabO ps) → h.IsCode 134 130 ps.1 ∧ h.TableAt 134 130 ps.1
  free : h₀.get? 130 = none
  mod : ∃ mg bm ob, BMod h₀ mainGlobals mg bm ob

def RetG (h₀ : Heap) (o : OsState) (L : Addr) (vs : List Str) (l : List (Option Value)) (oL : Obj) (Q : Value → Shared → Prop) (fl : Flow) (s₂ : Shared) : Prop :=
  ∃ gs L' vs' l' led', St h₀ (o, gs) L' vs' l' ((L, oL) :: led') s₂ ∧ (St h₀ (o, gs) L vs l led' s₂ → Q (match fl with | .ret v => v | _ => .none) s₂)

section
variable {w : World} {A : Around} {E : Value → Shared → Prop} {s : Shared} {h₀ : Heap} {os : OsG} {L : Addr} {vs : List Str} {l : List (Option Value)} {led : List (Addr × Obj)} {env : Env}

theorem code_fnG {f : Addr} {args : List Value} {R : Result → Shared → Prop} {ps : List Str} (K : FnOk w.params f ps args) (rest : List Str)
    (G : Gnd w h₀) (S : St h₀ os L vs l led s) (hA : A.depth < recursionLimit)
    (h : ∀ L' oL s₁, (∀ p ∈ (L, oL) :: led, p.1 < L') → St h₀ os L' (ps ++ rest) (args.map some ++ List.replicate rest.length none) ((L, oL) :: led) s₁ →
      wpAny (model pw w) (A.deeper (callEnv (fdOf w.params f) L' f)) (execs (bodyOf (fdOf w.params f)) (callEnv (fdOf w.params f) L' f))
        (RetG h₀ os.1 L vs l oL fun v s' => R (.ok (.ret v)) s') (fun _ _ => False) s₁) :
    codeAny (model pw w) A (.call (.ref f) ⟨args, []⟩) R s := by
  obtain ⟨hf, hd, hb, hcd, hbind, hlen, hnd, hloc', hcell', hco, hgen, hk⟩ := K
  have hloc : ∀ x ∈ ps, (fdOf w.params f).scope.names.lookup x = some .local := fun x hx => eq_of_beq (List.all_eq_true.mp hloc' x hx)
  have hcell : ∀ x ∈ (fdOf w.params f).scope.names, x.2 ≠ .cell := fun x hx e => by have := List.all_eq_true.mp hcell' x hx; rw [e] at this; exact absurd this (by decide)
  obtain ⟨oL, hL, hLf, hLn⟩ := S.under
  refine codeAny_call_def (fd := fdOf w.params f) (body := bodyOf (fdOf w.params f)) (binds := ps.zip args) hA (S.F.keep _ _ (G.kin _ _ hf)) hd (G.lim.keeps S.F.keep) (codeRec_of (G.kin.keeps S.F.keep) hcd) hb (.of_eq hbind) hcell
    (fun x hx => hloc x.1 (List.of_mem_zip hx).1) (fun h₁ hns hk₁ => ?_) hco hgen hk
  have hmap : (fun x => (ps.zip args).reverse.lookup x) = locMap (ps ++ rest) (args.map some ++ List.replicate rest.length none) := by
    funext y
    rw [lookup_reverse _ (by rw [map_zip_fst ps args hlen]; exact hnd), lookup_zip ps args rest hlen]
  rw [hmap] at hns
  have hLlt : L < s.heap.objs.size := Heap.lt_size hL
  have hle : h₀.objs.size ≤ s.heap.objs.size := Nat.le_trans S.F.above (Nat.le_of_lt hLlt)
  have hlt : ∀ p ∈ (L, oL) :: led, p.1 < s.heap.objs.size := fun p hp => by
    rcases List.mem_cons.mp hp with rfl | hp
    · exact hLlt
    · exact S.lt hp
  refine wpAny_mono (h s.heap.objs.size oL _ hlt ⟨⟨hns, fun b o e => hk₁ b o (S.F.keep b o e), hle⟩, ?_, ?_, S.gens, S.os, Nat.lt_of_lt_of_le S.tok (Nat.le_add_right _ _)⟩) (fun fl s₂ h₂ => ?_) fun _ _ x => x.elim
  · intro p hp
    rcases List.mem_cons.mp hp with rfl | hp
    · exact ⟨hk₁ _ _ hL, Nat.ne_of_lt hLlt, none_of_ge S.F.above⟩
    · exact ⟨hk₁ _ _ (S.N p hp).1, Nat.ne_of_lt (Heap.lt_size (S.N p hp).1), (S.N p hp).2.2⟩
  · rw [List.map_cons, List.nodup_cons]
    refine ⟨fun hm => ?_, S.nd⟩
    obtain ⟨p, hp, e⟩ := List.mem_map.mp hm
    exact (S.N p hp).2.1 e
  · obtain ⟨gs, L₂, vs', l', led', S₂, hQ⟩ := h₂
    have hL₂ : s₂.heap.get? L = some oL := (S₂.N (L, oL) (.head _)).1
    have hnd := S₂.nd
    rw [List.map_cons, List.nodup_cons] at hnd
    have St₂ : St h₀ (os.1, gs) L vs l led' s₂ := ⟨⟨hLn _ hL₂, S₂.F.keep, S.F.above⟩, fun p hp => ⟨(S₂.N p (.tail _ hp)).1, fun e => hnd.1 (e ▸ List.mem_map.mpr ⟨p, hp, rfl⟩), (S₂.N p (.tail _ hp)).2.2⟩, hnd.2, S₂.gens, S₂.os, S₂.tok⟩
    cases fl <;> exact hQ St₂
theorem call_fnG {f : Addr} {args : List Value} {Q : Value → Shared → Prop} {ps : List Str} (K : FnOk w.params f ps args) (rest : List Str)
    (G : Gnd w h₀) (S : St h₀ os L vs l led s) (hA : A.depth < recursionLimit)
    (h : ∀ L' oL s₁, (∀ p ∈ (L, oL) :: led, p.1 < L') → St h₀ os L' (ps ++ rest) (args.map some ++ List.replicate rest.length none) ((L, oL) :: led) s₁ →
      wpAny (model pw w) (A.deeper (callEnv (fdOf w.params f) L' f)) (execs (bodyOf (fdOf w.params f)) (callEnv (fdOf w.params f) L' f))
        (RetG h₀ os.1 L vs l oL Q) (fun _ _ => False) s₁) :
    wpAny (model pw w) A (call (.ref f) args) Q E s :=
  wpAny_call (code_fnG K rest G S hA h)

theorem gcode {pos : Pos} {qn : Str} {scope : Scope} {ps : Tab} {Q : Value → Shared → Prop} (C : GndC h₀) (S : St h₀ os L vs l ((130, tabO ps) :: led) s) (hc : env.code = .ref 134)
    (h : ∀ code ps' s', s.heap.objs.size ≤ s'.heap.objs.size → St h₀ os L vs l ((130, tabO ps') :: led) s' → Q code s') : wpAny (model pw w) A (genexprCode env pos qn scope) Q E s := by
  have hT := (S.N _ (.head _)).1
  obtain ⟨ok, tab⟩ := C.code s.heap ps S.F.keep hT
  cases hf : codeAmong pos ps.1.toList with
  | some v => exact wpAny_genexprCode_hit hc ok hf (h v ps s (Nat.le_refl _) S)
  | none =>
    refine wpAny_with_toks (n := s.toks) (Nat.le_refl _) (wpAny_genexprCodeX hc ok tab hf fun c' h' tk hx hge hlt _ _ ht _ hle => ?_)
    have hT' : TriplesOk (ps.1 ++ #[rawInt pos.line, rawInt pos.col, .ref c']).toList := by
      rw [Array.toList_append]
      exact TriplesOk_snoc _ _ _ _ ps.2
    have h130 : h'.get? 130 = some (tabO ⟨_, hT'⟩) := ht.2
    have nd := S.nd
    rw [List.map_cons, List.nodup_cons] at nd
    have hL : L ≠ 130 := Ne.symm (S.N _ (.head _)).2.1
    refine h (.ref c') ⟨ps.1 ++ #[rawInt pos.line, rawInt pos.col, .ref c'], hT'⟩ _ (Nat.le_trans hge (Nat.le_of_lt hlt)) ⟨⟨?_, fun b o e => hx b o (fun q => by rw [q, C.free] at e; cases e) (S.F.keep b o e), S.F.above⟩, fun p hp => ?_, by rw [List.map_cons, List.nodup_cons]; exact nd, S.gens, S.os, Nat.lt_of_lt_of_le S.tok hle⟩
    · obtain ⟨oL, es, ep, hL', r⟩ := S.F.ns
      exact ⟨oL, es, ep, hx L oL hL hL', r⟩
    · rcases List.mem_cons.mp hp with rfl | hp
      · exact ⟨h130, (S.N _ (.head _)).2⟩
      · have P := S.N p (.tail _ hp)
        exact ⟨hx p.1 p.2 (fun q => nd.1 (List.mem_map.mpr ⟨p, hp, q⟩)) P.1, P.2⟩

theorem elt_str {cenv : Env} {T : Addr} {n : Nat} {t : Tok} {x y : Value} {p1 p2 p3 p4 p5 : Pos} {k : Nat} {A' : Around} {E' : Value → Shared → Prop} {s₂ : Shared} {m₂ mg mb : Str → Option Value} (hk : cenv.scope.kind = .function)
    (hs : cenv.kindOf "str" = some .globalImplicit) (ht : cenv.kindOf "tup" = some .local) (hn : s₂.heap.Ns cenv.locals m₂) (hm : m₂ "tup" = some (.ref T)) (hT : s₂.heap.get? T = some (tupO [.int n t, x, y]))
    (hg : s₂.heap.Ns cenv.globals mg) (hb : s₂.heap.Ns cenv.builtins mb) (e1 : mg "str" = none) (e2 : mb "str" = some (.type "str")) (hsm : n ≤ 100001) :
    wpAny (model pw w) A' (eval (.Call (.Name "str" p1) [.Subscript (.Name "tup" p2) (.Constant (.int 0) k p3) p4] [] p5) cenv) (fun y s₃ => (∃ u, y = .str (toString (n : Int)) u) ∧ Keeps s₂ s₃) E' s₂ := by
  refine callName (Name_function_global hk hs (loadGlobal_builtin hg e1 hb e2 ?_) (by decide +kernel))
  refine cwT rfl ?_
  dsimp only [ArgsW, List.nil_append]
  refine Subscript_ (wpAny_Name (wpAny_loadName_local hk ht hn hm (wpAny_Constant_int ?_)) (by decide +kernel))
  refine item_tupleT (l := [.int n t, x, y]) (j := 0) ⟨_, hT, rfl, _, rfl⟩ (by decide) (by decide) (by rfl) (by rfl) ?_ (by with_unfolding_all rfl)
  refine P.str_of_int ?_ ⟨⟨_, rfl⟩, _, _, rfl, fun _ _ e => e⟩
  rw [Int.natAbs_natCast]
  by_cases h0 : n = 0
  · rw [h0]; decide +kernel
  · have := (Nat.log2_lt h0).mpr (show n < 2 ^ 20 by omega)
    omega

theorem genI {D : Addr} {xs : List Value} {k : Nat} {ps : Tab} {elt iter : Expr} {x : Str} {px pos : Pos} {ifs : List Expr} {scope : Scope} {Q : Value → Shared → Prop} (G : Gnd w h₀) (C : GndC h₀) (S : St h₀ os L vs l ((130, tabO ps) :: led) s)
    (hD : (D, lsO xs k) ∈ led) (hcode : env.code = .ref 134) (hgl : env.globals = mainGlobals) (hco : scope.isCoroutine = false) (hclos : closureFor scope env = pure []) (hcell : ∀ y ∈ scope.names, y.2 ≠ .cell) (h0 : scope.names.lookup (".0" : Str) = some NameKind.local)
    (hkind : scope.kind = .function) (hroom : A.depth < recursionLimit) (hs : ∀ x, genFold iter env x = pure x)
    (hit : ∀ Q' : Value → Shared → Prop, (∀ s', St h₀ os L vs l ((130, tabO ps) :: led) s' → Q' (.ref D) s') → wpAny (model pw w) A (eval iter env) Q' E s)
    (h : ∀ a I c oc it nm qn code ps' s', L < I → L < c → (∃ h' : Heap, h'.get? c = some oc ∧ h'.Ns c (fun y => if y = ".0" then some (.ref I) else none)) → it = { cls := .type "list_iterator", data := .fields #[.ref D, .int 0 0] } →
      St h₀ (os.1, os.2.1.push (.fresh (.compStart (.GeneratorExp elt [⟨.Name x px, iter, ifs, 0⟩] scope pos) 0 (.ref I) .none (genEnv scope [] c code builtinsNs env))), os.2.2) L vs l
        ((a, { cls := .type "generator", data := .fields #[.int os.2.1.size 0, nm, qn] }) :: (c, oc) :: (I, it) :: (130, tabO ps') :: led) s' → Q (.ref a) s') :
    wpAny (model pw w) A (eval (.GeneratorExp elt [⟨.Name x px, iter, ifs, 0⟩] scope pos) env) Q E s := by
  refine wpAny_GeneratorExp_make hco hclos hcell h0 hkind hroom (hit _ ?_) hs
  clear S; intro s S
  refine wpAny_pyIter_list (isL (S.N (D, lsO xs k) (.tail _ hD)).1) ?_
  have hLt : L < s.heap.objs.size := let ⟨_, _, _, e, _⟩ := S.F.ns; Heap.lt_size e
  have S := S.push (tk := s.toks) { cls := .type "list_iterator", data := .fields #[.ref D, .int 0 0] } (Nat.le_refl _)
  refine ⟨G.lim.keeps S.F.keep, ?_⟩
  refine gcode C (S.perm (.swap _ _ _)) hcode ?_
  intro code ps' s₂ hsz S
  obtain ⟨mg, bm, ob, M⟩ := C.mod
  have M₂ := M.keeps S.F.keep
  rw [hgl]
  refine wpAny_builtinsFor M₂.ns M₂.name M₂.ne M₂.obj M₂.cls M₂.dict M₂.data ?_
  intro h' hn' hs'
  have hsz' : s₂.heap.objs.size < h'.objs.size := by rw [hs'.1, Heap.size_push]; exact Nat.lt_succ_self _
  have keep' : ∀ b o, s₂.heap.get? b = some o → h'.get? b = some o := fun b o e => hs'.extBut b o (Nat.ne_of_lt (Heap.lt_size e)) (Heap.get?_push_of_some _ e)
  obtain ⟨oc, es, ep, hoc, r⟩ := id hn'
  have S1 := (S.made (tk := s₂.toks) keep' hoc (Nat.le_refl _) (Nat.le_refl _)).push (tk := s₂.toks + 1 + 1 + 1) { cls := .type "generator", data := .fields #[.int s₂.gens.size 0, .str "<genexpr>" (s₂.toks + 1), .str (env.qual ++ "<genexpr>") (s₂.toks + 1 + 1)] } (by show s₂.toks ≤ _; omega)
  have eos := S.os
  have hos : os = (s₂.os, s₂.gens, s₂.drawn) := eos.symm
  subst hos
  refine h _ s.heap.objs.size s₂.heap.objs.size oc _ (.str "<genexpr>" (s₂.toks + 1)) (.str (env.qual ++ "<genexpr>") (s₂.toks + 1 + 1)) code ps' _ hLt (Nat.lt_of_lt_of_le hLt (Nat.le_trans (by rw [Heap.size_push]; exact Nat.le_succ _) hsz)) ⟨h', hoc, hn'⟩ rfl ?_
  have S2 := S1.perm (led' := (h'.objs.size, { cls := .type "generator", data := .fields #[.int s₂.gens.size 0, .str "<genexpr>" (s₂.toks + 1), .str (env.qual ++ "<genexpr>") (s₂.toks + 1 + 1)] }) :: (s₂.heap.objs.size, oc) :: (s.heap.objs.size, { cls := .type "list_iterator", data := .fields #[.ref D, .int 0 0] }) :: (130, tabO ps') :: led) (.cons _ (.cons _ (.swap _ _ _)))
  exact ⟨S2.F, S2.N, S2.nd, S2.gens.push rfl, rfl, S2.tok⟩

def numS (n : Nat) : Str := toString (n : Int)
theorem numS_len {n : Nat} (h : n ≤ 100001) : (numS n).length ≤ 10 := toString_length_le (by omega) (by decide) (by omega)
theorem joinOk_nums (sep : Str) (hs : sep.length ≤ 2) (ns : List Nat) (hn : ns.length ≤ 100001) (hb : ∀ n ∈ ns, n ≤ 100001) : JoinOk sep (ns.map numS) = true := by
  have key : ∀ (ns : List Nat) (acc : Nat), (∀ n ∈ ns, n ≤ 100001) → (ns.map numS).foldl (· + ·.length + sep.length) acc ≤ acc + ns.length * 12 := by
    intro ns
    induction ns with
    | nil => intro acc _; simp
    | cons a r ih =>
      intro acc hb
      rw [List.map_cons, List.foldl_cons]
      have h1 := ih (acc + (numS a).length + sep.length) (fun n hn => hb n (.tail _ hn))
      have h2 := numS_len (hb a (.head _))
      simp only [List.length_cons]
      omega
  have h1 := key ns 0 hb
  unfold JoinOk
  rw [Bool.not_eq_true', List.foldl_toArray]
  unfold Builtin.Str.tooLong
  apply decide_eq_false
  have h2 : 8000000 ≤ sizeLine := by decide +kernel
  omega

theorem genJ {D a I c : Addr} {oc it : Obj} {nm qn : Value} {xs : List Value} {ns : List Nat} {k : Nat} {ps : Tab} {sep : Str} {t : Tok} {iter : Expr} {px pos p1 p2 p3 p4 p5 : Pos} {kk : Nat} {scope : Scope} {code : Value} {o : OsState} {gs : Array GenState} {dr : Drawn} {Q : Value → Shared → Prop}
    (G : Gnd w h₀) (hh : A.handled = none) (hroom : A.depth < recursionLimit) (hgl : env.globals = mainGlobals)
    (S : St h₀ (o, gs.push (.fresh (.compStart (.GeneratorExp (.Call (.Name "str" p1) [.Subscript (.Name "tup" p2) (.Constant (.int 0) kk p3) p4] [] p5) [⟨.Name "tup" px, iter, [], 0⟩] scope pos) 0 (.ref I) .none (genEnv scope [] c code builtinsNs env))), dr) L vs l
        ((a, { cls := .type "generator", data := .fields #[.int gs.size 0, nm, qn] }) :: (c, oc) :: (I, it) :: (130, tabO ps) :: led) s)
    (hLI : L < I) (hLc : L < c) (hoc : ∃ h' : Heap, h'.get? c = some oc ∧ h'.Ns c (fun y => if y = ".0" then some (.ref I) else none)) (hit : it = { cls := .type "list_iterator", data := .fields #[.ref D, .int 0 0] })
    (hD : (D, lsO xs k) ∈ led) (hw : Wits led xs ns) (hlt : ∀ p ∈ (130, tabO ps) :: led, p.1 < L) (hx : scope.names.lookup ("tup" : Str) = some NameKind.local) (hks : (genEnv scope [] c code builtinsNs env).kindOf "str" = some .globalImplicit) (hkind : scope.kind = .function) (hco : scope.isCoroutine = false)
    (hsep : sep.length ≤ 2) (hn : ns.length ≤ 100001) (hb : ∀ n ∈ ns, n ≤ 100001)
    (h : ∀ gs' t' s', St h₀ (o, gs') L vs l ((130, tabO ps) :: led) s' → Q (.str (Txt.join sep (ns.map numS)) t') s') :
    wpAny (model pw w) A (call (.builtin "str.join") [.str sep t, .ref a]) Q E s := by
  have hlen := hw.len
  have hxs : xs.length ≤ 100001 := by omega
  have cA := S.N _ (.head _)
  have cC := S.N _ (.tail _ (.head _))
  have cI := S.N _ (.tail _ (.tail _ (.head _)))
  have cL : ∀ p ∈ led, _ := fun p hp => S.N p (.tail _ (.tail _ (.tail _ (.tail _ hp))))
  have nd := S.nd
  simp only [List.map_cons, List.nodup_cons, List.mem_cons, not_or] at nd
  obtain ⟨⟨nac, naI, _, naL⟩, ⟨ncI, _, ncL⟩, ⟨_, nIL⟩, _⟩ := nd
  have inL : ∀ {p}, p ∈ led → p.1 ∈ led.map (·.1) := fun hp => List.mem_map.mpr ⟨_, hp, rfl⟩
  obtain ⟨mg, mb, hg, hb0, hbb⟩ := G.top
  have hst : ∃ o, h₀.get? cStatics = some o := let ⟨_, ⟨o, _, _, e, _⟩, _⟩ := G.lim; ⟨o, e⟩
  have hmg : ∃ o, h₀.get? mainGlobals = some o := let ⟨o, _, _, e, _⟩ := hg; ⟨o, e⟩
  have hmb : ∃ o, h₀.get? builtinsNs = some o := let ⟨o, _, _, e, _⟩ := hb0; ⟨o, e⟩
  have neK : ∀ {b} {q : Addr}, (∃ o, h₀.get? b = some o) → h₀.get? q = none → b ≠ q := fun ⟨o, e⟩ e' q => by rw [q, e'] at e; cases e
  have hstep : ∀ (v : Value), v ∈ xs → ∀ i : Nat, xs[i]? = some v → ∃ T t x y, ∃ n : Nat, v = .ref T ∧ (T, tupO [.int n t, x, y]) ∈ led ∧ ns[i]? = some n := by
    have key : ∀ (xs : List Value) (ns : List Nat), Wits led xs ns → ∀ (i : Nat) (v : Value), xs[i]? = some v → ∃ T t x y, ∃ n : Nat, v = .ref T ∧ (T, tupO [.int n t, x, y]) ∈ led ∧ ns[i]? = some n := by
      intro xs
      induction xs with
      | nil => intro ns _ i v e; simp at e
      | cons a r ih =>
        intro ns hw i v e
        cases ns with
        | nil => exact hw.elim
        | cons n ns =>
          obtain ⟨⟨T, t, x, y, e1, e2⟩, hr⟩ := hw
          cases i with
          | zero => simp at e; subst e; exact ⟨T, t, x, y, n, e1, e2, rfl⟩
          | succ i => exact ih ns hr i v (by simpa using e)
    exact fun v _ i e => key xs ns hw i v e
  let refs : List Addr := xs.filterMap fun v => match v with | .ref T => some T | _ => none
  have hrefs : ∀ T ∈ refs, ∃ o, (T, o) ∈ led := by
    intro T hT
    obtain ⟨v, hv, e⟩ := List.mem_filterMap.mp hT
    obtain ⟨i, hi⟩ := List.getElem?_of_mem hv
    obtain ⟨T', t, x, y, n, rfl, hm, _⟩ := hstep v hv i hi
    cases e
    exact ⟨_, hm⟩
  let fp : List Addr := I :: D :: mainGlobals :: builtinsNs :: cStatics :: refs
  have hfp : ∀ b ∈ fp, b ≠ a ∧ b ≠ c ∧ b < s.heap.objs.size := by
    intro b hb'
    simp only [fp, List.mem_cons] at hb'
    rcases hb' with rfl | rfl | rfl | rfl | rfl | hb'
    · exact ⟨Ne.symm naI, Ne.symm ncI, Heap.lt_size cI.1⟩
    · exact ⟨fun e => naL (e ▸ inL hD), fun e => ncL (e ▸ inL hD), Heap.lt_size (cL _ hD).1⟩
    · exact ⟨neK hmg cA.2.2, neK hmg cC.2.2, let ⟨o, e⟩ := hmg; Heap.lt_size (S.F.keep _ _ e)⟩
    · exact ⟨neK hmb cA.2.2, neK hmb cC.2.2, let ⟨o, e⟩ := hmb; Heap.lt_size (S.F.keep _ _ e)⟩
    · exact ⟨neK hst cA.2.2, neK hst cC.2.2, let ⟨o, e⟩ := hst; Heap.lt_size (S.F.keep _ _ e)⟩
    · obtain ⟨o, hm⟩ := hrefs b hb'
      exact ⟨fun e => naL (e ▸ inL hm), fun e => ncL (e ▸ inL hm), Heap.lt_size (cL _ hm).1⟩
  have hns : s.heap.Ns c (fun y => if y = ".0" then some (.ref I) else none) := by
    obtain ⟨h', e1, o', es, ep, e2, r⟩ := hoc
    rw [e1] at e2
    cases e2
    exact ⟨oc, es, ep, cC.1, r⟩
  have W₀ : ∀ A' : Around, A'.handled = none → Walks pw w A' I fp [I] xs.toArray.size (fun i v => xs.toArray[i]? = some v) (fun i h => h.IsListIter I D i ∧ h.IsList D xs.toArray) := fun A' hA =>
    (Walks.list hA I D (fun e => nIL (e ▸ inL hD)) xs.toArray).mono_fp fun b hb' => by
      simp only [List.mem_cons, List.not_mem_nil, or_false] at hb'
      rcases hb' with rfl | rfl <;> simp [fp]
  have hp : passing (fun _ => true) xs.toArray.size 0 = List.range xs.length := by
    simp only [passing, List.drop_zero, List.size_toArray]
    exact List.filter_eq_self.mpr fun _ _ => rfl
  let F : Nat → Value → Prop := fun i y => ∃ u, y = .str (numS (ns.getD i 0)) u
  have W := WalksS.genexpQ (prog := pw) (w := w) (A := A.in4) hh a gs.size c fp [I] (fun _ => true) xs.toArray.size F nac (fun hm => (hfp a hm).1 rfl) (fun b hb' => by rw [List.mem_singleton.mp hb']; exact .head _) hroom (by simp [fp])
    (hfp cStatics (by simp [fp])).2.1 (fun hm => neK hst cI.2.2 (List.mem_singleton.mp hm))
  have hgen : GenAt pw w A.in4 a gs.size c fp [I] (fun _ => true) xs.toArray.size F 0 s := by
    have hgs : s.gens[gs.size]? = some (.fresh (.compStart (.GeneratorExp (.Call (.Name "str" p1) [.Subscript (.Name "tup" p2) (.Constant (.int 0) kk p3) p4] [] p5) [⟨.Name "tup" px, iter, [], 0⟩] scope pos) 0 (.ref I) .none (genEnv scope [] c code builtinsNs env))) := by
      have e := S.os
      have e2 : s.gens = gs.push _ := congrArg (fun q => q.2.1) e
      rw [e2]
      exact Array.getElem?_push_size ..
    refine GenAt.freshD (A := A.in4) (cenv := genEnv scope [] c code builtinsNs env) (m := fun y => if y = ".0" then some (.ref I) else none) hh W₀ (fun _ => true) F hx (by simp [genEnv, hkind]) hco (fun hm => (hfp c hm).2.1 rfl)
      ⟨fun A' E' i v s₂ m₂ _ _ _ _ _ _ _ => wpAny_pure ⟨rfl, s₂.heap, s₂.toks, rfl, fun _ _ e => e⟩, fun A' E' i v s₂ m₂ hA _ _ hP _ hn₂ hm₂ hk₂ => ?_⟩
      ⟨_, _, _, cA.1, rfl, rfl, rfl⟩ hgs ⟨⟨_, cI.1, by rw [hit], by rw [hit]; rfl⟩, isL (cL _ hD).1⟩ hns (G.lim.keeps S.F.keep)
    have hv : xs[i]? = some v := by simpa using hP
    obtain ⟨T, t', x, y, n, rfl, hm, hn'⟩ := hstep v (List.mem_of_getElem? hv) i hv
    have hTf : T ∈ fp := by
      simp only [fp, List.mem_cons]
      exact .inr (.inr (.inr (.inr (.inr (List.mem_filterMap.mpr ⟨_, List.mem_of_getElem? hv, rfl⟩)))))
    have kp : ∀ b ∈ fp, b ≠ I → ∀ o, s.heap.get? b = some o → s₂.heap.get? b = some o := fun b hb' hne o e => hk₂ b hb' (fun q => hne (List.mem_singleton.mp q)) o e
    have hgd : ns.getD i 0 = n := by rw [List.getD_eq_getElem?_getD, hn']; rfl
    show wpAny _ _ _ (fun y s₃ => (∃ u, y = Value.str (numS (ns.getD i 0)) u) ∧ Keeps s₂ s₃) _ _
    rw [hgd]
    have hgl' : (genEnv scope [] c code builtinsNs env).globals = mainGlobals := hgl
    refine elt_str (T := T) (t := t') (x := x) (y := y) (mg := mg) (mb := mb) hkind hks hx hn₂ hm₂ (kp T hTf (fun e => nIL (e ▸ inL hm)) _ (cL _ hm).1) ?_ ?_ (mg_none G.kin hg (bl_str w.params).1) ((hbb "str" (bl_str w.params).2.2.1).trans (bl_str w.params).2.1) (hb n (List.mem_of_getElem? hn'))
    · rw [hgl']
      exact (hg.keeps S.F.keep).at' fun o e => kp mainGlobals (by simp [fp]) (neK hmg cI.2.2) o e
    · exact (hb0.keeps S.F.keep).at' fun o e => kp builtinsNs (by simp [fp]) (neK hmb cI.2.2) o e
  have hn1 : (passing (fun _ => true) xs.toArray.size 0).length = ns.length := by rw [hp, List.length_range, hlen]
  rw [hp] at W
  have hmap : (List.range (List.range xs.length).length).map (fun j => numS (ns.getD j 0)) = ns.map numS := by
    rw [List.length_range, hlen]
    apply List.ext_getElem
    · simp
    · intro i h1 h2
      have : i < ns.length := by simpa using h2
      simp [List.getD_eq_getElem?_getD, this]
  refine wpAny_with_toks (n := s.toks) (Nat.le_refl _) (join_rowsK (K := L) S.F S.gens ⟨_, _, _, _, W, hgen, fun i s' st => st.1.typeIs, .head _, ?_, ?_⟩ (Nat.le_refl L) (fun j => numS (ns.getD j 0)) ?_ ?_ ?_ ?_)
  · intro b hb'
    rcases List.mem_cons.mp hb' with rfl | hb'
    · exact Heap.lt_size cA.1
    · rcases List.mem_cons.mp hb' with rfl | hb'
      · exact Heap.lt_size cC.1
      · exact (hfp b hb').2.2
  · intro b hb'
    rcases List.mem_cons.mp hb' with rfl | hb'
    · exact hLc
    · rw [List.mem_singleton.mp hb']; exact hLI
  · rintro j v ⟨i, hi, u, rfl⟩
    have : i = j := by
      have := List.getElem?_eq_some_iff.mp hi
      simpa using this.2.symm
    exact ⟨u, by rw [this]⟩
  · rw [hmap]; exact joinOk_nums sep hsep ns hn hb
  · rw [hmap]
    intro s' t' F' G' hos hk hle
    refine h (s'.gens, s'.drawn) t' s' ⟨F', fun p hp' => ?_, ?_, G', ?_, Nat.lt_of_lt_of_le S.tok hle⟩
    · have P := S.N p (.tail _ (.tail _ (.tail _ hp')))
      exact ⟨hk p.1 p.2 (Nat.le_of_lt (hlt p hp')) P.1, P.2⟩
    · exact (S.drop (led' := (130, tabO ps) :: led) (.cons _ (.cons _ (.cons _ (.refl _))))).nd
    · have e1 : s.os = o := congrArg Prod.fst S.os
      rw [hos, e1]
  · rw [List.length_range]
    exact Nat.le_trans hxs (show 100001 ≤ sizeLine by decide +kernel)
end
end
section
open PySem PySem.W PySem.Calls PyProof.Rows PySem.Spec PyProof.V
set_option maxRecDepth 100000
set_option maxHeartbeats 4000000
set_option linter.unusedVariables false

def headS (ns : List Nat) : Str := if ns.length > 1 then Str.ofString "at tab size" ++ Str.ofString "s" else Str.ofString "at tab size"
def fmtS (ns : List Nat) : Str := headS ns ++ Str.ofString " " ++ Txt.join (Str.ofString ", ") (ns.map numS)

theorem txt_join (sep : Str) (ys : List Str) : Txt.join sep ys = Str.join sep ys := by
  unfold Txt.join
  exact StrLaws.glued_eq_join _ _
theorem joinS_len (sep : Str) (hs : sep.length ≤ 2) (ns : List Nat) (hn : ns.length ≤ 100001) (hb : ∀ n ∈ ns, n ≤ 100001) : (Txt.join sep (ns.map numS)).length ≤ 1300000 := by
  have h1 := StrLaws.join_length_le sep (ns.map numS)
  have key : ∀ ns : List Nat, (∀ n ∈ ns, n ≤ 100001) → ((ns.map numS).map (·.length)).sum ≤ ns.length * 10 := by
    intro ns
    induction ns with
    | nil => intro _; simp
    | cons a r ih =>
      intro hb
      have h1 := ih fun n hn => hb n (.tail _ hn)
      have h2 := numS_len (hb a (.head _))
      simp only [List.map_cons, List.sum_cons, List.length_cons]
      omega
  have h2 := key ns hb
  have h3 : (ns.map numS).length * sep.length ≤ (ns.map numS).length * 2 := Nat.mul_le_mul_left _ hs
  rw [List.length_map] at h1 h3
  have h4 : Txt.join sep (ns.map numS) = Str.join sep (ns.map numS) := txt_join _ _
  rw [h4]
  omega
section
variable {w : World} {A : Around} {E : Value → Shared → Prop} {s : Shared} {h₀ : Heap} {os : OsG} {L : Addr} {vs : List Str} {l : List (Option Value)} {led : List (Addr × Obj)} {env : Env}

theorem c_fmt {D : Addr} {xs : List Value} {k : Nat} {ns : List Nat} {ps : Tab} {Q : Value → Shared → Prop} (G : Gnd w h₀) (C : GndC h₀) (S : St h₀ os L vs l ((130, tabO ps) :: led) s) (O : AOk A 4 60)
    (hD : (D, lsO xs k) ∈ led) (hw : Wits led xs ns) (hn : ns.length ≤ 100001) (hb : ∀ n ∈ ns, n ≤ 100001)
    (h : ∀ gs' ps' t s', (fmtS ns).length ≤ 2000000 → St h₀ (os.1, gs') L vs l ((130, tabO ps') :: led) s' → Q (.str (fmtS ns) t) s') :
    wpAny (model pw w) A (call (.ref 135) [.ref D]) Q E s := by
  have K := fn_fmt w.params (.ref D)
  refine call_fnG K rs_fmt G S (by have := O.dp; omega) ?_
  clear S
  intro L' oL s₁ hlt S
  have V0 := sl_fmt_w w.params L'
  have V1 := sl_fmt_firsts w.params L'
  have V2 := sl_fmt_prefix w.params L'
  have O := O.deeper (env := callEnv (fdOf w.params 135) L' 135)
  dsimp only [List.map, List.replicate, List.cons_append, List.nil_append, List.append_nil, List.length] at S
  have S := S.perm (.swap _ _ _)
  refine seqI ?_
  repeat tb_start
  refine genI (k := k) (xs := xs) (D := D) G C S (.tail _ hD) (by kernel_rfl) (by kernel_rfl) (by kernel_rfl) (by kernel_rfl) (by decide +kernel) (by decide +kernel) (by kernel_rfl) (by have := O.dp; omega) (by intro x; with_unfolding_all rfl) ?_ ?_
  · intro Q' hQ'
    repeat tb_start
    exact hQ' _ S
  clear S
  intro a I c oc it nm qn code ps' s hLI hLc hoc hit S
  repeat tb_start
  have hlen := hw.len
  refine lenL S (isL (S.N (D, lsO xs k) (.tail _ (.tail _ (.tail _ (.tail _ (.tail _ hD)))))).1) (Nat.le_trans (by simp; omega) (show 8000000 ≤ sizeLine by decide +kernel)) ?_
  clear S; intro t s S
  have l1 : (Str.ofString "at tab size").length = 11 := by decide +kernel
  repeat' tb_start
  all_goals
    refine genJ (ns := ns) (xs := xs) (D := D) (k := k) (led := (L, oL) :: led) G O.hd (by have := O.dp; omega) (by kernel_rfl) S hLI hLc hoc hit (.tail _ hD) (hw.mono fun _ h => .tail _ h) (fun p hp => ?_) (by kernel_rfl) (by kernel_rfl) (by kernel_rfl) (by kernel_rfl) (by decide +kernel) hn hb ?_
    · rcases List.mem_cons.mp hp with rfl | hp
      · exact hlt (130, tabO ps) (.tail _ (.head _))
      · rcases List.mem_cons.mp hp with rfl | hp
        · exact hlt _ (.head _)
        · exact hlt _ (.tail _ (.tail _ hp))
    clear S; intro gs' tj s S
    have hjl : (Txt.join (Str.ofString ", ") (ns.map numS)).length ≤ 1300000 := joinS_len _ (by decide +kernel) ns hn hb
    repeat tb_start
    have hf : (fmtS ns).length ≤ 2000000 := by
      unfold fmtS headS
      split <;> simp only [Str.length_append, l1, lenlits] <;> omega
    refine ⟨gs', _, _, _, _, S.perm (.swap _ _ _), fun S => ?_⟩
    have := h gs' ps' t s hf S
    unfold fmtS headS at this
    by_cases q : ns.length > 1
    · rw [if_pos q] at this
      first
        | exact this
        | (exfalso; simp at hc; omega)
    · rw [if_neg q] at this
      first
        | exact this
        | (exfalso; simp at hc; omega)
end
end
section
open PySem PySem.W PySem.Calls PyProof.Rows PySem.Spec PyProof.V
set_option maxRecDepth 100000
set_option maxHeartbeats 4000000
set_option linter.unusedVariables false

noncomputable def nagO (P : Params) : Obj := ((KF P).lookup 59).getD default
noncomputable def nagD (P : Params) : ClassData := match (nagO P).data with | .cls cd => cd | _ => default
noncomputable def nagK (P : Params) (i : Nat) : Option Value := ((nagO P).slots[i]?).getD none
abbrev excBm : List Value := [.type "Exception", .type "BaseException", .type "object"]
theorem nag_obj (P : Params) : (KF P).lookup 59 = some (excClassObj (nagD P).name (nagD P).qualname 59 58 (nagD P).bases excBm true (nagD P).slotNames (nagD P).subclasses (nagD P).abstract (nagD P).collection (nagO P).dict (nagK P 0) (nagK P 1) (nagK P 2) (nagK P 3) (nagK P 5) "Exception.__new__") := by kernel_rfl
theorem nag_cls (P : Params) : clsIn (KF P) 59 = some (nagD P) := by kernel_rfl
theorem nag_mro (P : Params) : (nagD P).mro = .ref 59 :: excBm := by kernel_rfl
theorem nag_hasDict (P : Params) : (nagD P).hasDict = true := by kernel_rfl
structure NagAttr (P : Params) (name : Str) : Prop where
  no : findIn (KF P) (.ref 59) name = some none
  sa : findIn (KF P) (.ref 59) "__setattr__" = some (some (.builtin "object.__setattr__"))
  ga : findIn (KF P) (.ref 59) "__getattribute__" = some (some (.builtin "BaseException.__getattribute__"))
  gt : findIn (KF P) (.ref 59) "__getattr__" = some none
theorem na_lineno (P : Params) : NagAttr P "lineno" := ⟨by kernel_rfl, by kernel_rfl, by kernel_rfl, by kernel_rfl⟩
theorem na_msg (P : Params) : NagAttr P "msg" := ⟨by kernel_rfl, by kernel_rfl, by kernel_rfl, by kernel_rfl⟩
theorem na_line (P : Params) : NagAttr P "line" := ⟨by kernel_rfl, by kernel_rfl, by kernel_rfl, by kernel_rfl⟩

section
variable {w : World} {A : Around} {E : Value → Shared → Prop} {s : Shared} {h₀ : Heap} {os : OsG} {L : Addr} {vs : List Str} {l : List (Option Value)} {led : List (Addr × Obj)} {env : Env}

theorem nsa_open {x : Addr} {ox : Obj} {od : Option Obj} {name : Str} {tk : Tok} {v : Value} {R : Result → Shared → Prop} (X : (KF w.params).In s.heap) (I : InstAt s.heap x ox 59 od) (a : NagAttr w.params name)
    (h : ∀ b, wpAny (model pw w) A.in1 (Builtin.ObjectAttr.storeInOwnDict (.ref x) (.ref 59) (.str name tk) name v b)
      (fun fin s' => match fin with | .done f => R (.ok f) s' | .again c' => c'.quiet = true ∧ codeAny (model pw w) A c' R s') (fun e s' => R (.error e) s') s) :
    codeAny (model pw w) A (.call (.builtin "object.__setattr__") ⟨[.ref x, .str name tk, v], []⟩) R s := by
  have SF := PySem.F.store_object
  have hc := nag_cls w.params
  have sub : Looks (model pw w) s.heap (isInstance (.ref x) (.type "object")) true := I.type.andThen (looks_mroIn X (by kernel_rfl))
  refine codeAny_call_builtin SF.slot.plain SF.entry (@check_slot (model pw w) _ _ s "object.__setattr__" "object" "__setattr__" (.ref x) [.str name tk, v] [] _ SF.kind SF.split sub (SF.args (.ref x) (.str name tk) v) ?_)
  have hm : Looks (model pw w) s.heap (mroOf (.ref 59)) (nagD w.params).mro := (looks_clsIn X hc).andThen .now
  have L3 : Looks (model pw w) s.heap (Builtin.ObjectAttr.storeTaker? none) none := .now
  rw [osa_eq, refuse_eq]
  refine wpAny_bind (wpAny_bind (I.type.here (wpAny_bind (hm.here ?_))))
  rw [nag_mro, refuseLoop_ref, PySem.F.store_Exception.passes]
  refine wpAny_pure (wpAny_bind (I.type.here (wpAny_bind ((looks_findIn X a.no).here (wpAny_bind (L3.here ?_))))))
  exact h _

theorem storeDict {dx : Addr} {es : List DictEntry} {n : Nat} {name : Str} {tk : Tok} {v : Value} {Q : Fin → Shared → Prop} (D : s.heap.get? dx = some (dictOf es n)) (hl : getL name es = some none) (hz : es.length < 1000)
    (h : ∀ hs, Q (.done (.ret .none)) { s with heap := s.heap.update dx (Obj.putName name hs (.str name s.toks) v), toks := s.toks + 1 }) :
    wpAny (model pw w) A (Builtin.ObjectAttr.storeInDict dx (.str name tk) name v) Q E s := by
  have D' : ∀ hs, (s.heap.update dx (Obj.putName name hs (.str name s.toks) v)).get? dx = some (dictOf (es ++ [⟨hs, .str name s.toks, v⟩]) (n + 1)) := fun hs => by
    rw [Heap.get?_update_self _ D (by rw [putName_dict]; rfl), putName_dict, putL_none hl, putN_none hl]
  unfold Builtin.ObjectAttr.storeInDict Builtin.ObjectAttr.newKeyGuard
  refine wpAny_bind (wpAny_pure (wpAny_bind ?_))
  unfold nsSet
  refine wpAny_bind (wpAny_bind (wpAny_askSetting (wpAny_pure (wpAny_bind (wpAny_mkText (wpAny_bind (wpAny_loadPart D ?_)))))))
  dsimp only
  have c : (!es.toArray.any (·.key.isStr name) && es.toArray.any (·.refKey)) = false := by
    unfold getL at hl
    split at hl
    · cases hl
    · split at hl
      · cases hl
      · rename_i z
        rw [Bool.not_eq_true] at z
        rw [List.any_toArray, List.any_toArray, z, Bool.and_false]
  rw [aRefKeyMayBeTheName_at, c]
  refine wpAny_updatePart D ?_
  refine wpAny_bind (wpAny_lookBehind (D' _) (pastItsLine_dict (by rw [List.size_toArray, List.length_append, sizeLine_eq]; simp; omega)) ?_)
  exact wpAny_pure (h _)

abbrev nagE (d : Option Addr) (fs : Array Value) : Obj := { cls := .ref 59, dict := d, data := .fields fs }
theorem nsaNew {e : Addr} {fs : Array Value} {name : Str} {tk : Tok} {v : Value} {R : Result → Shared → Prop} (X : (KF w.params).In s.heap) (he : s.heap.get? e = some (nagE none fs)) (a : NagAttr w.params name)
    (h : ∀ hs, R (.ok (.ret .none)) { s with heap := ((s.heap.push { cls := .type "dict", data := .dict #[] }).update e fun o => { o with dict := some s.heap.objs.size }).update s.heap.objs.size (Obj.putName name hs (.str name s.toks) v), toks := s.toks + 1 }) :
    codeAny (model pw w) A (.call (.builtin "object.__setattr__") ⟨[.ref e, .str name tk, v], []⟩) R s := by
  have I : InstAt s.heap e (nagE none fs) 59 none := ⟨he, rfl, rfl, trivial⟩
  refine nsa_open X I a fun b => ?_
  have hne : e ≠ s.heap.objs.size := Nat.ne_of_lt (Heap.lt_size he)
  have he' : (s.heap.push { cls := .type "dict", data := .dict #[] }).get? e = some (nagE none fs) := Heap.get?_push_of_some _ he
  refine wpAny_bind (wpAny_pure (wpAny_bind (wpAny_bind (wpAny_loadPart he (wpAny_bind ((looks_clsIn X (nag_cls w.params)).here ?_))))))
  rw [nag_hasDict]
  refine wpAny_bind (wpAny_alloc (wpAny_bind (wpAny_update he' ?_)))
  refine wpAny_pure (a := some s.heap.objs.size) ?_
  refine storeDict (es := []) (n := 0) (s := { s with heap := (s.heap.push { cls := .type "dict", data := .dict #[] }).update e fun o => { o with dict := some s.heap.objs.size } }) ?_ rfl (by decide) fun hs => h hs
  exact (Heap.get?_update_other _ _ hne).trans (Heap.get?_push_size _ rfl)
theorem nagSet1 {e : Addr} {fs : Array Value} {name : Str} {v : Value} {Q : Unit → Shared → Prop} (G : Gnd w h₀) (S : St h₀ os L vs l ((e, nagE none fs) :: led) s) (a : NagAttr w.params name)
    (h : ∀ dx hs t s', St h₀ os L vs l ((e, nagE (some dx) fs) :: (dx, dictOf [⟨hs, .str name t, v⟩] 1) :: led) s' → Q () s') : wpAny (model pw w) A (setAttr (.ref e) name v) Q E s := by
  have X := G.kin.keeps S.F.keep
  have he := (S.N _ (.head _)).1
  have I : InstAt s.heap e (nagE none fs) 59 none := ⟨he, rfl, rfl, trivial⟩
  refine set_plain X I a.sa ?_
  refine nsaNew (s := { s with toks := s.toks + 1 }) X he a fun hs => ?_
  have hne : e ≠ s.heap.objs.size := Nat.ne_of_lt (Heap.lt_size he)
  have S1 := S.push (tk := s.toks) { cls := .type "dict", data := .dict #[] } (Nat.le_refl _)
  have S2 := (S1.perm (.swap _ _ _)).upd (tk := s.toks) (o' := nagE (some s.heap.objs.size) fs) (Heap.SameBut.update _ e fun o => { o with dict := some s.heap.objs.size }) (by rw [Heap.get?_update_self _ (Heap.get?_push_of_some _ he) (by rfl)]) (Nat.le_refl _)
  have S3 := (S2.perm (.swap _ _ _)).upd (tk := s.toks + 1 + 1) (o' := dictOf [⟨hs, .str name (s.toks + 1), v⟩] 1) (Heap.SameBut.update _ s.heap.objs.size (Obj.putName name hs (.str name (s.toks + 1)) v)) (by
    have D := (S2.N _ (.tail _ (.head _))).1
    rw [Heap.get?_update_self _ D (by rw [show ({ cls := .type "dict", data := .dict #[] } : Obj) = dictOf [] 0 from rfl, putName_dict]; rfl), show ({ cls := .type "dict", data := .dict #[] } : Obj) = dictOf [] 0 from rfl, putName_dict]
    rfl) (by show s.toks ≤ _; omega)
  exact h _ _ _ _ (S3.perm (.swap _ _ _))
theorem nagSet {e dx : Addr} {fs : Array Value} {es : List DictEntry} {n : Nat} {name : Str} {v : Value} {Q : Unit → Shared → Prop} (G : Gnd w h₀) (S : St h₀ os L vs l ((e, nagE (some dx) fs) :: (dx, dictOf es n) :: led) s) (a : NagAttr w.params name) (hl : getL name es = some none) (hz : es.length < 1000)
    (h : ∀ hs t s', St h₀ os L vs l ((e, nagE (some dx) fs) :: (dx, dictOf (es ++ [⟨hs, .str name t, v⟩]) (n + 1)) :: led) s' → Q () s') : wpAny (model pw w) A (setAttr (.ref e) name v) Q E s := by
  have X := G.kin.keeps S.F.keep
  have he := (S.N _ (.head _)).1
  have D := (S.N _ (.tail _ (.head _))).1
  have I : InstAt s.heap e (nagE (some dx) fs) 59 (some (dictOf es n)) := ⟨he, rfl, rfl, D⟩
  refine set_plain X I a.sa ?_
  refine nsa_open (s := { s with toks := s.toks + 1 }) X I a fun b => ?_
  refine wpAny_bind (wpAny_pure (wpAny_bind (wpAny_bind (wpAny_loadPart he (wpAny_bind (Looks.here (s := { s with toks := s.toks + 1 }) (looks_clsIn X (nag_cls w.params)) ?_))))))
  rw [nag_hasDict]
  refine wpAny_pure (a := some dx) ?_
  refine storeDict (es := es) (n := n) (s := { s with toks := s.toks + 1 }) D hl hz fun hs => ?_
  have S3 := (S.perm (.swap _ _ _)).upd (tk := s.toks + 1 + 1) (o' := dictOf (es ++ [⟨hs, .str name (s.toks + 1), v⟩]) (n + 1)) (Heap.SameBut.update _ dx (Obj.putName name hs (.str name (s.toks + 1)) v)) (by
    rw [Heap.get?_update_self _ D (by rw [putName_dict]; rfl), putName_dict, putL_none hl, putN_none hl]) (by show s.toks ≤ _; omega)
  exact h _ _ _ (S3.perm (.swap _ _ _))

theorem St.made' {h' : Heap} {tk : Nat} {a : Addr} {o : Obj} (S : St h₀ os L vs l led s) (hk : ∀ b o, s.heap.get? b = some o → h'.get? b = some o) (ha : h'.get? a = some o) (hn : s.heap.get? a = none) (ht : s.toks ≤ tk) :
    St h₀ os L vs l ((a, o) :: led) { s with heap := h', toks := tk } := by
  have S' := S.kept (tk := tk) hk ht
  refine ⟨S'.F, fun p hp => ?_, ?_, S.gens, S.os, S'.tok⟩
  · rcases List.mem_cons.mp hp with rfl | hp
    · refine ⟨ha, fun e => ?_, ?_⟩
      · obtain ⟨oL, _, _, hL, _⟩ := S.F.ns
        have e' : a = L := e
        rw [e', hL] at hn; cases hn
      · cases q : h₀.get? a with
        | none => rfl
        | some o => rw [S.F.keep _ _ q] at hn; cases hn
    · exact S'.N p hp
  · rw [List.map_cons, List.nodup_cons]
    refine ⟨fun hm => ?_, S.nd⟩
    obtain ⟨p, hp, e⟩ := List.mem_map.mp hm
    have := (S.N p hp).1
    rw [show p.1 = a from e, hn] at this; cases this

noncomputable def nag58 (P : Params) : Array DictEntry := match (((KF P).lookup 58).getD default).data with | .dict es _ => es | _ => #[]
theorem nag58_ok (P : Params) : ∃ d sl n c, (KF P).lookup 58 = some ⟨c, d, .dict (nag58 P) n, sl⟩ := ⟨(((KF P).lookup 58).getD default).dict, (((KF P).lookup 58).getD default).slots, (match (((KF P).lookup 58).getD default).data with | .dict _ n => n | _ => 0), (((KF P).lookup 58).getD default).cls, by kernel_rfl⟩
theorem nag58_keys (P : Params) : ((nag58 P).toList.all fun e => match e.key with | .str _ _ => true | _ => false) = true := by kernel_rfl
theorem nag58_init (P : Params) : ((nag58 P).find? (fun e => e.key.isStr "__init__")).map (·.val) = some (.ref 35) := by kernel_rfl
theorem ns58 (G : Gnd w h₀) (S : St h₀ os L vs l led s) : s.heap.Ns 58 (fun x => ((nag58 w.params).find? (fun e => e.key.isStr x)).map (·.val)) := by
  obtain ⟨d, sl, n, c, e⟩ := nag58_ok w.params
  refine ⟨_, nag58 w.params, n, G.kin.keeps S.F.keep _ _ e, rfl, fun en hen => ?_, fun _ => rfl⟩
  have := List.all_eq_true.mp (nag58_keys w.params) en (by simpa using hen)
  split at this
  · rename_i a b q; exact ⟨a, b, q⟩
  · cases this

/-- the nag's instance -/
def NagEs (es : List DictEntry) (i : Int) (x y : Str) : Prop :=
  (∀ en ∈ es, ∃ a b, en.key = .str a b) ∧ (∃ t, getL "lineno" es = some (some (.int i t))) ∧ (∃ t, getL "msg" es = some (some (.str x t))) ∧ (∃ t, getL "line" es = some (some (.str y t))) ∧
    getL "get_lineno" es = some none ∧ getL "get_msg" es = some none ∧ getL "get_line" es = some none
structure NagAt (led : List (Addr × Obj)) (e dx : Addr) (fs : Array Value) (i : Int) (x y : Str) : Prop where
  e : (e, nagE (some dx) fs) ∈ led
  d : ∃ es n, (dx, dictOf es n) ∈ led ∧ NagEs es i x y

theorem c_nag {i : Int} {x y : Str} {t₁ t₂ t₃ : Tok} {Q : Value → Shared → Prop} (G : Gnd w h₀) (S : St h₀ os L vs l led s) (O : AOk A 4 60)
    (h : ∀ e dx t es n s', NagEs es i x y → St h₀ os L vs l ((e, nagE (some dx) #[.ref t, .none, .none, .none, .bool false, .none]) :: (dx, dictOf es n) :: led) s' → Q (.ref e) s') :
    wpAny (model pw w) A (call (.ref 59) [.int i t₁, .str x t₂, .str y t₃]) Q E s := by
  have O := O.cls (C := 59) (vals := [.int i t₁, .str x t₂, .str y t₃]) (kw := [])
  refine wpAny_call_exc_init PySem.F.excBase_Exception (G.kin.keeps S.F.keep _ _ (nag_obj w.params)) (ns58 G S) (nag58_init w.params) (G.kin.keeps S.F.keep 35 _ (fn_nninit w.params (.ref 0) .none .none .none).look) (by kernel_rfl) ?_ (show 3 ≤ sizeLine by decide +kernel)
  intro h' e hm
  obtain ⟨t, he, htn, ht⟩ := hm.there
  have S1 := S.made' (tk := s.toks) hm.keeps he hm.new (Nat.le_refl _)
  generalize A.under _ = A' at O ⊢
  have hfe : ∀ p ∈ ((e, nagE none #[.ref t, .none, .none, .none, .bool false, .none]) :: led : List (Addr × Obj)), p ∈ led ∨ s.heap.get? p.1 = none := fun p hp => by
    rcases List.mem_cons.mp hp with rfl | hp
    · exact .inr hm.new
    · exact .inl hp
  have K := fn_nninit w.params (.ref e) (.int i t₁) (.str x t₂) (.str y t₃)
  have hge : ∀ b o, s.heap.get? b = some o → h'.get? b = some o := hm.keeps
  refine call_fn K rs_nninit G S1 (by have := O.dp; omega) ?_
  intro L' oL s₁ S2
  have V0 := sl_nninit_self w.params L'
  have V1 := sl_nninit_lineno w.params L'
  have V2 := sl_nninit_msg w.params L'
  have V3 := sl_nninit_line w.params L'
  have O := O.deeper (env := callEnv (fdOf w.params 35) L' 35)
  have S := S2
  dsimp only [List.map, List.replicate, List.cons_append, List.nil_append, List.append_nil, List.length] at S
  refine seqI ?_
  refine Assign_Tuple ?_ (by with_unfolding_all rfl) (by with_unfolding_all rfl)
  repeat tb_start
  refine newT S (show 3 ≤ sizeLine by decide +kernel) ?_
  clear S; intro D s S
  refine unpT O.hd S (.head _) (by with_unfolding_all rfl) (by with_unfolding_all rfl) ?_
  clear S; intro s S
  refine inOrder_cons ?_
  repeat tb_start
  have S := (S.drop (List.sublist_cons_self _ _)).perm (.swap _ _ _)
  refine nagSet1 G S (na_lineno _) ?_
  clear S; intro dx h1 u1 s S
  refine inOrder_cons ?_
  repeat tb_start
  refine nagSet G S (na_msg _) (by rfl) (by simp) ?_
  clear S; intro h2 u2 s S
  refine inOrder_cons ?_
  repeat tb_start
  refine nagSet G S (na_line _) (by rfl) (by simp) ?_
  clear S; intro h3 u3 s S
  refine inOrder_nil ?_
  repeat tb_start
  refine ⟨_, _, _, _, S.perm (perm_mid [_, _] led (L, oL)), fun S => ⟨rfl, h e dx t _ _ s ⟨?_, ⟨_, rfl⟩, ⟨_, rfl⟩, ⟨_, rfl⟩, rfl, rfl, rfl⟩ S⟩⟩
  intro en hen
  simp only [List.mem_append, List.mem_cons, List.not_mem_nil, or_false] at hen
  rcases hen with (rfl | rfl) | rfl <;> exact ⟨_, _, rfl⟩

theorem lk_lineno : typeLookup (.type "Exception") "lineno" = pure none := by rw [typeLookup_type, builtinLookup_eq_fast]; kernel_rfl
theorem lk_msg : typeLookup (.type "Exception") "msg" = pure none := by rw [typeLookup_type, builtinLookup_eq_fast]; kernel_rfl
theorem lk_line : typeLookup (.type "Exception") "line" = pure none := by rw [typeLookup_type, builtinLookup_eq_fast]; kernel_rfl
theorem lk_getattr : typeLookup (.type "Exception") "__getattr__" = pure none := by rw [typeLookup_type, builtinLookup_eq_fast]; kernel_rfl
noncomputable abbrev nagCls (P : Params) : Obj := excClassObj (nagD P).name (nagD P).qualname 59 58 (nagD P).bases excBm true (nagD P).slotNames (nagD P).subclasses (nagD P).abstract (nagD P).collection (nagO P).dict (nagK P 0) (nagK P 1) (nagK P 2) (nagK P 3) (nagK P 5) "Exception.__new__"
theorem nag_entry {h : Heap} {g : Array GenState} {d : Drawn} {t : Nat} {os : OsState} {e dx : Addr} {fs : Array Value} {name : Str} {tk : Tok} {v : Value} {mN mA : Str → Option Value} {Q : Fin → Shared → Prop} (P : Params)
    (hC : h.get? 59 = some (nagCls P)) (hn : h.Ns 58 mN) (hna : mN name = none) (hB : typeLookup (.type "Exception") name = pure none) (hx : h.get? e = some (nagE (some dx) fs)) (hns : h.Ns dx mA) (hv : mA name = some v) (hq : Q (.done (.ret v)) ⟨h, g, d, t, os⟩) :
    wpAny (model pw w) A (Builtin.«object.__getattribute__» ⟨[.ref e, .str name tk], []⟩) Q E ⟨h, g, d, t, os⟩ := by
  have hc : (nagE (some dx) fs).cls = .ref 59 := rfl
  have hm := PySem.F.excBase_Exception.mroIs
  repeat (any_goals (first | assumption | (with_reducible refine wpAny_loadPart_at hx ?_; rw [hc]) | (with_reducible refine wpAny_typeLookup_exc hC hn hm hB ?_; rw [hna]) | (with_reducible refine wpAny_nsGet hns ?_; rw [hv]) | wp_step))

theorem nag_check {M : Model} {h : Heap} {g : Array GenState} {d : Drawn} {t : Nat} {os : OsState} {e dx : Addr} {fs : Array Value} {nameV : Value} {Q : Unit → Shared → Prop} (P : Params)
    (hC : h.get? 59 = some (nagCls P)) (hx : h.get? e = some (nagE (some dx) fs)) (hq : Q () ⟨h, g, d, t, os⟩) : wpAny M A (checkBuiltinCall "BaseException.__getattribute__" ⟨[.ref e, nameV], []⟩) Q E ⟨h, g, d, t, os⟩ := by
  have hk : builtinKind "BaseException.__getattribute__" = some .slot := by decide +kernel
  have hsplit : splitId "BaseException.__getattribute__" = some ("BaseException", "__getattribute__") := by decide +kernel
  have hcB : (Value.ref 59 :: excBm).contains (.type "BaseException") = true := by decide +kernel
  have ha := F.args_bexc_ga (.ref e) nameV
  have hc : (nagE (some dx) fs).cls = .ref 59 := rfl
  simp only [checkBuiltinCall, hk, hsplit]
  refine wpAny_bind ?_
  unfold isInstance
  repeat (first | (with_reducible refine wpAny_loadPart_at hx ?_; rw [hc]) | (with_reducible refine wpAny_isSubtype_exc hC ?_; rw [hcB]) | wp_step)
  exact hq

theorem nag_get {h : Heap} {g : Array GenState} {d : Drawn} {t : Nat} {os : OsState} {e dx : Addr} {fs : Array Value} {name : Str} {v : Value} {mN mA : Str → Option Value} {expr : Bool} {Q : Value → Shared → Prop} (P : Params)
    (hC : h.get? 59 = some (nagCls P)) (hn : h.Ns 58 mN) (hna : mN name = none) (hn1 : mN "__getattribute__" = none) (hn2 : mN "__getattr__" = none) (hB : typeLookup (.type "Exception") name = pure none) (hx : h.get? e = some (nagE (some dx) fs)) (hns : h.Ns dx mA) (hv : mA name = some v)
    (hh : handedOut v = pure v) (hq : Q v ⟨h, g, d, t + 1, os⟩) :
    wpAny (model pw w) A (getAttr (.ref e) name expr) Q E ⟨h, g, d, t, os⟩ := by
  have hc : (nagE (some dx) fs).cls = .ref 59 := rfl
  have hm := PySem.F.excBase_Exception.mroIs
  have FB := PySem.F.attr_Exception
  have f3 := FB.ga.bind (.ref e)
  have hx0 : (expr && onTheHeap (Value.builtin "BaseException.__getattribute__")) = false := by cases expr <;> rfl
  have hx2 : (Value.builtin "BaseException.__getattribute__" == Value.builtin "object.__getattribute__") = false := by decide +kernel
  have hx1 : (onTheHeap (Value.ref 59) && Value.builtin "BaseException.__getattribute__" == Value.builtin "object.__getattribute__") = false := by rw [hx2]; rfl
  unfold getAttr getAttrBy
  repeat (any_goals (first | assumption | (with_reducible refine wpAny_loadPart_at hx ?_; rw [hc]) | (with_reducible refine wpAny_typeLookup_exc hC hn hm FB.ga.lookup ?_; rw [hn1]) | (with_reducible refine wpAny_typeLookup_exc hC hn hm lk_getattr ?_; rw [hn2]) | wp_step))
  refine codeAny_call_builtin FB.ga.plain F.entry_bexc_ga (nag_check P hC hx (nag_entry P hC hn hna hB hx hns hv ?_))
  show wpAny _ _ (handedOut v) _ _ _
  rw [hh]
  exact wpAny_pure hq

theorem nsOf {dx : Addr} {es : List DictEntry} {n : Nat} (S : St h₀ os L vs l led s) (hm : (dx, dictOf es n) ∈ led) (hk : ∀ en ∈ es, ∃ a b, en.key = .str a b) : s.heap.Ns dx (fun x => (es.toArray.find? (fun e => e.key.isStr x)).map (·.val)) :=
  ⟨_, es.toArray, n, (S.N _ hm).1, rfl, fun en hen => hk en (by simpa using hen), fun _ => rfl⟩
theorem getL_find {es : List DictEntry} {name : Str} {v : Value} (h : getL name es = some (some v)) : (es.toArray.find? (fun e => e.key.isStr name)).map (·.val) = some v := by
  unfold getL at h
  rw [List.find?_toArray]
  split at h
  · rename_i e q; rw [q]; cases h; rfl
  · split at h <;> cases h
theorem nag58_no (P : Params) (x : Str) (h : nsIn (KF P) 58 x = some none) : ((nag58 P).find? (fun e => e.key.isStr x)).map (·.val) = none := by
  obtain ⟨d, sl, n, c, e⟩ := nag58_ok P
  unfold nsIn at h
  rw [e] at h
  simp only at h
  rw [← Array.find?_toList]
  split at h
  · cases h
  · rename_i q; rw [q]; rfl
theorem nagLoad {e dx : Addr} {fs : Array Value} {name : Str} {v : Value} {es : List DictEntry} {n : Nat} {expr : Bool} {Q : Value → Shared → Prop} (G : Gnd w h₀) (S : St h₀ os L vs l led s) (he : (e, nagE (some dx) fs) ∈ led) (hd : (dx, dictOf es n) ∈ led) (hk : ∀ en ∈ es, ∃ a b, en.key = .str a b)
    (hl : getL name es = some (some v)) (hno : nsIn (KF w.params) 58 name = some none) (hB : typeLookup (.type "Exception") name = pure none) (hh : handedOut v = pure v) (h : ∀ s', St h₀ os L vs l led s' → Q v s') : wpAny (model pw w) A (getAttr (.ref e) name expr) Q E s := by
  have h1 := nag58_no w.params _ hno
  have h2 := nag58_no w.params "__getattribute__" (by kernel_rfl)
  have h3 := nag58_no w.params "__getattr__" (by kernel_rfl)
  exact nag_get w.params (G.kin.keeps S.F.keep _ _ (nag_obj w.params)) (ns58 G S) h1 h2 h3 hB (S.N _ he).1 (nsOf S hd hk) (getL_find hl) hh (h _ (S.toks (Nat.succ_pos _)))
theorem nagMeth {e dx f : Addr} {fs : Array Value} {name : Str} {es : List DictEntry} {n : Nat} {pl : Sem Bool} {Q : Value × List Value → Shared → Prop} (G : Gnd w h₀) (S : St h₀ os L vs l led s) (he : (e, nagE (some dx) fs) ∈ led) (hd : (dx, dictOf es n) ∈ led)
    (hf : findIn (KF w.params) (.ref 59) name = some (some (.ref f))) (ht : typeIn (KF w.params) (.ref f) = some (.type "function")) (hl : getL name es = some none) (h : Q (.ref f, [.ref e]) s) : wpAny (model pw w) A (getMethod (.ref e) name pl) Q E s := by
  have X := G.kin.keeps S.F.keep
  have I : InstAt s.heap e (nagE (some dx) fs) 59 (some (dictOf es n)) := ⟨(S.N _ he).1, rfl, rfl, (S.N _ hd).1⟩
  have hcan : (Manifest.canonical "BaseException.__getattribute__" != "object.__getattribute__") = false := by decide +kernel
  unfold getMethod specialOf
  refine wpAny_bind (wpAny_bind (I.type.here ((looks_findIn X (na_lineno w.params).ga).here ?_)))
  dsimp only
  rw [hcan, if_neg (by decide)]
  refine wpAny_bind (wpAny_bind (I.type.here ((looks_findIn X (na_lineno w.params).gt).here ?_)))
  refine wpAny_bind (wpAny_bind (I.type.here ((looks_findIn X hf).here (wpAny_bind ((looks_typeIn X ht).here ?_)))))
  rw [if_neg (by decide +kernel)]
  refine wpAny_bind (wpAny_loadPart I.at_ ?_)
  refine wpAny_bind (wpAny_bind (wpAny_loadPart (S.N _ hd).1 ?_))
  rw [nsLook_of (show lookIn name (dictOf es n) = some none by rw [lookIn_dict]; exact hl)]
  refine wpAny_pure ?_
  exact wpAny_bind (wpAny_rule (wpAny_pure h))

theorem c_get1 {e dx : Addr} {fs : Array Value} {i : Int} {x y : Str} {Q : Value → Shared → Prop} (G : Gnd w h₀) (S : St h₀ os L vs l led s) (hA : A.depth < recursionLimit) (N : NagAt led e dx fs i x y)
    (h : ∀ t s', St h₀ os L vs l led s' → Q (.int i t) s') : wpAny (model pw w) A (call (.ref 42) [.ref e]) Q E s := by
  obtain ⟨he, es, n, hd, hk, ⟨t, g1⟩, _⟩ := N
  refine call_fn (fn_nnlineno w.params (.ref e)) rs_nnlineno G S hA ?_
  clear S
  intro L' oL s₁ S
  have V0 := sl_nnlineno_self w.params L'
  dsimp only [List.map, List.replicate, List.cons_append, List.nil_append, List.append_nil, List.length] at S
  refine seqI ?_
  repeat tb_start
  refine nagLoad G S (.tail _ he) (.tail _ hd) hk g1 (by kernel_rfl) lk_lineno rfl ?_
  clear S; intro s S
  repeat tb_start
  exact h _ _ S
theorem c_get2 {e dx : Addr} {fs : Array Value} {i : Int} {x y : Str} {Q : Value → Shared → Prop} (G : Gnd w h₀) (S : St h₀ os L vs l led s) (hA : A.depth < recursionLimit) (N : NagAt led e dx fs i x y)
    (h : ∀ t s', St h₀ os L vs l led s' → Q (.str x t) s') : wpAny (model pw w) A (call (.ref 49) [.ref e]) Q E s := by
  obtain ⟨he, es, n, hd, hk, _, ⟨t, g1⟩, _⟩ := N
  refine call_fn (fn_nnmsg w.params (.ref e)) rs_nnmsg G S hA ?_
  clear S
  intro L' oL s₁ S
  have V0 := sl_nnmsg_self w.params L'
  dsimp only [List.map, List.replicate, List.cons_append, List.nil_append, List.append_nil, List.length] at S
  refine seqI ?_
  repeat tb_start
  refine nagLoad G S (.tail _ he) (.tail _ hd) hk g1 (by kernel_rfl) lk_msg rfl ?_
  clear S; intro s S
  repeat tb_start
  exact h _ _ S
theorem c_get3 {e dx : Addr} {fs : Array Value} {i : Int} {x y : Str} {Q : Value → Shared → Prop} (G : Gnd w h₀) (S : St h₀ os L vs l led s) (hA : A.depth < recursionLimit) (N : NagAt led e dx fs i x y)
    (h : ∀ t s', St h₀ os L vs l led s' → Q (.str y t) s') : wpAny (model pw w) A (call (.ref 56) [.ref e]) Q E s := by
  obtain ⟨he, es, n, hd, hk, _, _, ⟨t, g1⟩, _⟩ := N
  refine call_fn (fn_nnline w.params (.ref e)) rs_nnline G S hA ?_
  clear S
  intro L' oL s₁ S
  have V0 := sl_nnline_self w.params L'
  dsimp only [List.map, List.replicate, List.cons_append, List.nil_append, List.append_nil, List.length] at S
  refine seqI ?_
  repeat tb_start
  refine nagLoad G S (.tail _ he) (.tail _ hd) hk g1 (by kernel_rfl) lk_line rfl ?_
  clear S; intro s S
  repeat tb_start
  exact h _ _ S
end
end
section
open PySem PySem.W PySem.Calls PyProof.Rows PySem.Spec PyProof.V
set_option maxRecDepth 100000
set_option maxHeartbeats 4000000
set_option linter.unusedVariables false

section
variable {M : Model} {w : World} {A : Around} {E : Value → Shared → Prop} {s : Shared} {h₀ : Heap} {os : OsG} {L : Addr} {vs : List Str} {l : List (Option Value)} {led : List (Addr × Obj)} {env : Env}

/-- a frame that waits or runs: its place, its object -/
structure FrameAt (h : Heap) (env : Env) (L : Addr) (o : Obj) : Prop where
  kind : env.scope.kind ≠ .module
  fr : env.frame = some L
  at_ : h.get? L = some o
  data : ∀ vs, o.data ≠ .fields vs

abbrev tbO (ts : Array Value) : Obj := { cls := .type "traceback", dict := none, data := .fields ts }
theorem newEnt {outer : List Env} {Ls : List Addr} {e dx : Addr} {fs : Array Value} {head : Value} {hadNext : Bool} {Q : Unit → Shared → Prop} (hfr : A.frames = some (env :: outer)) (hl : s.heap.FunFrames { objs := #[] } (env :: outer)) (hf : env.frame = some L)
    (hLs : (env :: outer).filterMap (·.frame) = Ls) (he : s.heap.get? e = some (nagE (some dx) fs)) (hsz : 1 < fs.size) (heL : e ∉ Ls)
    (h : ∀ h' T ts, s.heap.get? T = none → (∀ b o, b ≠ e → b ∉ Ls → s.heap.get? b = some o → h'.get? b = some o) → (∀ b o, b ∈ Ls → s.heap.get? b = some o → ∃ sl, h'.get? b = some { o with slots := sl }) →
      h'.get? e = some (nagE (some dx) (fs.setIfInBounds 1 (.ref T))) → h'.get? T = some (tbO ts) → ts[3]? = some .none → Q () { s with heap := h' }) :
    wpAny M A (do let a ← frameOf env; let pl ← entryPlaceOf L hadNext; let b ← EntryCells.newEntry head a .none (rawInt L) .none pl; setField (.ref e) 1 b) (fun _ s' => wpAny M A (setFlight (.ref e) none) Q E s') E s := by
  refine wpAny_bind (wpAny_frameOf_fun hfr hl hf fun h₁ hs₁ => ?_)
  rw [hLs] at hs₁
  have he₁ : h₁.get? e = some (nagE (some dx) fs) := (hs₁.2.1 e heL).trans he
  refine wpAny_bind (wpAny_entryPlaceOf fun pl hpl => ?_)
  unfold EntryCells.newEntry newFields
  refine wpAny_bind (wpAny_newObj_type ?_ (hpl.sizeOk5 _ _ _ _ _))
  have hTe : h₁.objs.size ≠ e := Nat.ne_of_gt (Heap.lt_size he₁)
  have hTn : s.heap.get? h₁.objs.size = none := by
    cases q : s.heap.get? h₁.objs.size with
    | none => rfl
    | some o =>
      have h1 := Heap.lt_size q
      have h2 : h₁.objs.size = s.heap.objs.size := hs₁.1
      rw [h2] at h1
      exact absurd h1 (Nat.lt_irrefl _)
  refine wpAny_setField (Heap.get?_push_of_some _ he₁) rfl hsz ?_
  generalize hT : ({ cls := .type "traceback", dict := none, data := .fields _ } : Obj) = oT
  have he₂ : ((h₁.push oT).update e (Obj.mapFields (·.setIfInBounds 1 (.ref h₁.objs.size)))).get? e = some (nagE (some dx) (fs.setIfInBounds 1 (.ref h₁.objs.size))) := by
    rw [Heap.get?_update_self _ (Heap.get?_push_of_some _ he₁) (by rfl)]
    rfl
  have hT₂ : ((h₁.push oT).update e (Obj.mapFields (·.setIfInBounds 1 (.ref h₁.objs.size)))).get? h₁.objs.size = some oT := by
    rw [Heap.get?_update_other _ _ (Ne.symm hTe)]
    exact Heap.get?_push_size _ (by rw [← hT]; rfl)
  have h3 : 3 < ([head, .ref L, .none, rawInt L, .none] ++ (if pl.isEmpty then List.replicate 6 Value.none else pl)).toArray.size := by
    simp only [List.size_toArray, List.length_append, List.length_cons, List.length_nil] <;> omega
  unfold setFlight
  refine wpAny_bind (wpAny_field he₂ rfl (x := .ref h₁.objs.size) (by simp [hsz]) ?_)
  rw [if_pos (show (Value.ref h₁.objs.size != Value.none) = true from by simp)]
  refine wpAny_setField hT₂ (by rw [← hT]) h3 (h _ h₁.objs.size (([head, .ref L, .none, rawInt L, .none] ++ (if pl.isEmpty then List.replicate 6 Value.none else pl)).toArray.setIfInBounds 3 .none) hTn ?_ ?_ ?_ ?_ ?_)
  · intro b o b1 b2 hb
    have hb' : h₁.get? b = some o := (hs₁.2.1 b b2).trans hb
    rw [Heap.get?_update_other _ _ (Nat.ne_of_gt (Heap.lt_size hb')), Heap.get?_update_other _ _ (Ne.symm b1)]
    exact Heap.get?_push_of_some _ hb'
  · intro b o hb2 hb
    obtain ⟨sl, hb'⟩ := hs₁.2.2 b o hb
    refine ⟨sl, ?_⟩
    rw [Heap.get?_update_other _ _ (Nat.ne_of_gt (Heap.lt_size hb')), Heap.get?_update_other _ _ (fun q => heL (by rw [q]; exact hb2))]
    exact Heap.get?_push_of_some _ hb'
  · rw [Heap.get?_update_other _ _ hTe]
    exact he₂
  · rw [Heap.get?_update_self _ hT₂ (by rw [← hT]; rfl), ← hT]
    rfl
  · rw [Array.getElem?_setIfInBounds_self_of_lt h3]

theorem leaveX {LO LL e dx : Addr} {oL oO oW : Obj} {fs : Array Value} {envO envL : Env} {Q : Unit → Shared → Prop} (hfr : A.frames = some [env, envO, envL])
    (f1 : FrameAt s.heap env L oL) (f2 : FrameAt s.heap envO LO oO) (f3 : FrameAt s.heap envL LL oW)
    (he : s.heap.get? e = some (nagE (some dx) fs)) (h1 : fs[1]? = some .none)
    (h : ∀ h' T ts, s.heap.get? T = none → (∀ b o, b ≠ e → b ≠ L → b ≠ LO → b ≠ LL → s.heap.get? b = some o → h'.get? b = some o) → (∃ sl, h'.get? LO = some { oO with slots := sl }) → (∃ sl, h'.get? LL = some { oW with slots := sl }) →
      h'.get? e = some (nagE (some dx) (fs.setIfInBounds 1 (.ref T))) → h'.get? T = some (tbO ts) → ts[3]? = some .none → Q () { s with heap := h' }) :
    wpAny M A (leaving env (.ref e)) Q E s := by
  have hl : s.heap.FunFrames { objs := #[] } [env, envO, envL] := ⟨f1.kind, ⟨L, oL, f1.fr, by rfl, f1.at_, f1.data⟩, f2.kind, ⟨LO, oO, f2.fr, by rfl, f2.at_, f2.data⟩, f3.kind, ⟨LL, oW, f3.fr, by rfl, f3.at_, f3.data⟩, trivial⟩
  have ne : ∀ {b o}, s.heap.get? b = some o → (∀ vs, o.data ≠ .fields vs) → b ≠ e := fun hb hd q => by
    rw [q, he] at hb
    cases hb
    exact hd fs rfl
  have n1 := ne f1.at_ f1.data
  have n2 := ne f2.at_ f2.data
  have n3 := ne f3.at_ f3.data
  have hsz : 1 < fs.size := (Array.getElem?_eq_some_iff.mp h1).1
  unfold leaving noteFrame
  simp only [f1.fr]
  refine wpAny_bind (wpAny_bind (wpAny_field he rfl h1 ?_))
  rw [if_neg (by decide)]
  refine newEnt (Ls := [L, LO, LL]) hfr hl f1.fr (by simp [f1.fr, f2.fr, f3.fr]) he hsz (by simp [Ne.symm n1, Ne.symm n2, Ne.symm n3]) fun h' T ts hT hk hs ge gT g3 => ?_
  exact h h' T ts hT (fun b o b1 b2 b3 b4 hb => hk b o b1 (by simp [b2, b3, b4]) hb) (hs LO oO (by simp) f2.at_) (hs LL oW (by simp) f3.at_) ge gT g3

theorem noteX {LL e dx T₀ : Addr} {oL oW : Obj} {fs ts₀ : Array Value} {envL : Env} {Q : Unit → Shared → Prop} (hfr : A.frames = some [env, envL])
    (f1 : FrameAt s.heap env L oL) (f3 : FrameAt s.heap envL LL oW)
    (he : s.heap.get? e = some (nagE (some dx) fs)) (h1 : fs[1]? = some (.ref T₀)) (hT₀ : s.heap.get? T₀ = some (tbO ts₀)) (h3 : ts₀[3]? = some .none)
    (h : ∀ h' T ts, s.heap.get? T = none → (∀ b o, b ≠ e → b ≠ T₀ → b ≠ L → b ≠ LL → s.heap.get? b = some o → h'.get? b = some o) → (∃ sl, h'.get? L = some { oL with slots := sl }) → (∃ sl, h'.get? LL = some { oW with slots := sl }) →
      h'.get? e = some (nagE (some dx) (fs.setIfInBounds 1 (.ref T))) → h'.get? T = some (tbO ts) → ts[3]? = some .none → Q () { s with heap := h' }) :
    wpAny M A (noteFrame (.ref e) env) (fun _ s' => wpAny M A (setFlight (.ref e) none) Q E s') E s := by
  have ne : ∀ {b o}, s.heap.get? b = some o → (∀ vs, o.data ≠ .fields vs) → b ≠ e ∧ b ≠ T₀ := fun hb hd => ⟨fun q => by
    rw [q, he] at hb
    cases hb
    exact hd fs rfl, fun q => by
    rw [q, hT₀] at hb
    cases hb
    exact hd ts₀ rfl⟩
  have n1 := ne f1.at_ f1.data
  have n3 := ne f3.at_ f3.data
  have hTe : T₀ ≠ e := fun q => by rw [q, he] at hT₀; cases hT₀
  have hsz : 1 < fs.size := (Array.getElem?_eq_some_iff.mp h1).1
  have oth : ∀ b, b ≠ T₀ → (s.heap.update T₀ (Obj.mapFields (·.setIfInBounds 3 Value.none))).get? b = s.heap.get? b := fun b hb => Heap.get?_update_other _ _ (Ne.symm hb)
  have hl : (s.heap.update T₀ (Obj.mapFields (·.setIfInBounds 3 Value.none))).FunFrames { objs := #[] } [env, envL] := ⟨f1.kind, ⟨L, oL, f1.fr, by rfl, (oth L n1.2).trans f1.at_, f1.data⟩, f3.kind, ⟨LL, oW, f3.fr, by rfl, (oth LL n3.2).trans f3.at_, f3.data⟩, trivial⟩
  unfold noteFrame
  simp only [f1.fr]
  refine wpAny_bind (wpAny_field he rfl h1 ?_)
  rw [if_pos (show (Value.ref T₀ != Value.none) = true from by simp)]
  refine wpAny_bind (wpAny_field hT₀ rfl h3 ?_)
  rw [if_neg (show ¬ ((Value.none == rawInt L) = true) from by simp [rawInt])]
  refine wpAny_bind (wpAny_setField hT₀ rfl (Array.getElem?_eq_some_iff.mp h3).1 ?_)
  refine newEnt (Ls := [L, LL]) hfr hl f1.fr (by simp [f1.fr, f3.fr]) ((oth e (Ne.symm hTe)).trans he) hsz (by simp [Ne.symm n1.1, Ne.symm n3.1]) fun h' T ts hT hk hs ge gT g3 => ?_
  refine h h' T ts ?_ (fun b o b1 b2 b3 b4 hb => hk b o b1 (by simp [b3, b4]) ((oth b b2).trans hb)) (hs L oL (by simp) ((oth L n1.2).trans f1.at_)) (hs LL oW (by simp) ((oth LL n3.2).trans f3.at_)) ge gT g3
  cases q : s.heap.get? T with
  | none => rfl
  | some o =>
    by_cases qq : T = T₀
    · rw [qq, Heap.get?_update_self _ hT₀ (by rfl)] at hT; cases hT
    · rw [oth T qq, q] at hT; cases hT

theorem leaveSt {L' LL e dx : Addr} {oL oW : Obj} {fs : Array Value} {env envO envL : Env} {vs' : List Str} {l' : List (Option Value)} {X : Shared → Prop} (S : St h₀ os L' vs' l' ((e, nagE (some dx) fs) :: (L, oL) :: (LL, oW) :: led) s)
    (hfr : A.frames = some [env, envO, envL]) (hk : env.scope.kind ≠ .module) (hf : env.frame = some L') (hkO : envO.scope.kind ≠ .module) (hfO : envO.frame = some L) (hkL : envL.scope.kind ≠ .module) (hfL : envL.frame = some LL)
    (hdO : ∀ vs, oL.data ≠ .fields vs) (hdL : ∀ vs, oW.data ≠ .fields vs) (habove : h₀.objs.size ≤ L) (hnO : ∀ h' : Heap, (∃ sl, h'.get? L = some { oL with slots := sl }) → h'.Ns L (locMap vs l)) (h1 : fs[1]? = some .none)
    (h : ∀ sl T ts s', ts[3]? = some .none → St h₀ os L vs l ((e, nagE (some dx) (fs.setIfInBounds 1 (.ref T))) :: (T, tbO ts) :: (LL, { oW with slots := sl }) :: led) s' → X s') :
    wpAny M A (leaving env (.ref e)) (fun _ s' => X s') E s := by
  obtain ⟨o₁, es, ep, g1, d1, _⟩ := S.F.ns
  have nd := S.nd
  simp only [List.map_cons, List.nodup_cons, List.mem_cons, not_or] at nd
  obtain ⟨⟨neO, neL, neI⟩, ⟨nOL, nOI⟩, nLI, ndI⟩ := nd
  have ce := S.N _ (.head _)
  have cO := S.N _ (.tail _ (.head _))
  have cL := S.N _ (.tail _ (.tail _ (.head _)))
  have ndv : ∀ vs, o₁.data ≠ .fields vs := fun vs q => by rw [d1] at q; cases q
  refine leaveX hfr ⟨hk, hf, g1, ndv⟩ ⟨hkO, hfO, cO.1, hdO⟩ ⟨hkL, hfL, cL.1, hdL⟩ ce.1 h1 fun h' T ts hTn hkeep ⟨slO, gO⟩ ⟨slL, gL⟩ ge gT g3 => ?_
  have inI : ∀ {p}, p ∈ led → p.1 ∈ led.map (·.1) := fun hp => List.mem_map.mpr ⟨_, hp, rfl⟩
  have fr : ∀ {b o}, h₀.get? b = some o → b ≠ e ∧ b ≠ L' ∧ b ≠ L ∧ b ≠ LL := fun {b o} hb =>
    ⟨fun q => (by rw [q, ce.2.2] at hb; cases hb), fun q => (by rw [q, none_of_ge S.F.above] at hb; cases hb), fun q => (by rw [q, cO.2.2] at hb; cases hb), fun q => (by rw [q, cL.2.2] at hb; cases hb)⟩
  have fT : ∀ {p}, p ∈ ((e, nagE (some dx) fs) :: (L, oL) :: (LL, oW) :: led) → p.1 ≠ T := fun hp q => by
    have := (S.N _ hp).1
    rw [q, hTn] at this; cases this
  refine h slL T ts _ g3 ⟨⟨hnO h' ⟨slO, gO⟩, fun b o hb => hkeep b o (fr hb).1 (fr hb).2.1 (fr hb).2.2.1 (fr hb).2.2.2 (S.F.keep b o hb), habove⟩, fun p hp => ?_, ?_, S.gens, S.os, S.tok⟩
  · rcases List.mem_cons.mp hp with rfl | hp
    · exact ⟨ge, neO, ce.2.2⟩
    · rcases List.mem_cons.mp hp with rfl | hp
      · refine ⟨gT, fun q => fT (.tail _ (.head _)) q.symm, ?_⟩
        cases q : h₀.get? T with
        | none => rfl
        | some o => have := S.F.keep _ _ q; rw [hTn] at this; cases this
      rcases List.mem_cons.mp hp with rfl | hp
      · exact ⟨gL, Ne.symm nOL, cL.2.2⟩
      · have P := S.N p (.tail _ (.tail _ (.tail _ hp)))
        exact ⟨hkeep p.1 p.2 (fun q => neI (q ▸ inI hp)) P.2.1 (fun q => nOI (q ▸ inI hp)) (fun q => nLI (q ▸ inI hp)) P.1, fun q => nOI (q ▸ inI hp), P.2.2⟩
  · simp only [List.map_cons, List.nodup_cons, List.mem_cons, not_or]
    exact ⟨⟨fT (.head _), neL, neI⟩, ⟨fun q => fT (.tail _ (.tail _ (.head _))) q.symm, fun hm => by obtain ⟨p, hp, q⟩ := List.mem_map.mp hm; exact fT (.tail _ (.tail _ (.tail _ hp))) q⟩, nLI, ndI⟩

theorem raiseNag {P : Params} {x : Expr} {pos : Pos} {Q : Flow → Shared → Prop} (hh : A.handled = none)
    (h : wpAny M A (eval x env) (fun v s₁ => ∃ e dx t, v = .ref e ∧ s₁.heap.get? 59 = some (nagCls P) ∧ s₁.heap.get? e = some (nagE (some dx) #[.ref t, .none, .none, .none, .bool false, .none]) ∧ E (.ref e) s₁) E s) :
    wpAny M A (exec (.Raise (some x) none pos) env) Q E s := by
  have hcB : (Value.ref 59 :: excBm).contains (.type "BaseException") = true := by decide +kernel
  show wpAny M A (do standAt pos; raiseStmt env (some (do let v ← eval x env; standAt pos; pure v)) none) Q E s
  refine wpAny_bind (wpAny_standAt ?_)
  unfold raiseStmt
  refine wpAny_bind (wpAny_bind (wpAny_mono h (fun v s₁ h₁ => wpAny_bind (wpAny_standAt (wpAny_pure ?_))) fun _ _ x => x))
  obtain ⟨e, dx, t, rfl, hC, he, hE⟩ := h₁
  obtain ⟨hp, g, d, tk, os⟩ := s₁
  repeat (first | with_reducible refine wpAny_loadPart_at he ?_ | with_reducible refine wpAny_loadPart_at hC ?_ | (with_reducible refine wpAny_isSubtype_exc hC ?_; rw [hcB]) | wp_step)
  exact wpAny_raiseNew_none hh hE

theorem code_fnE {f : Addr} {args : List Value} {R : Result → Shared → Prop} {ps : List Str} (K : FnOk w.params f ps args) (rest : List Str)
    (G : Gnd w h₀) (S : St h₀ os L vs l led s) (hA : A.depth < recursionLimit)
    (h : ∀ L' oL s₁, St h₀ os L' (ps ++ rest) (args.map some ++ List.replicate rest.length none) ((L, oL) :: led) s₁ → (∀ vs, oL.data ≠ .fields vs) → (∀ h' : Heap, (∃ sl, h'.get? L = some { oL with slots := sl }) → h'.Ns L (locMap vs l)) →
      wpAny (model pw w) (A.deeper (callEnv (fdOf w.params f) L' f)) (execs (bodyOf (fdOf w.params f)) (callEnv (fdOf w.params f) L' f))
        (RetG h₀ os.1 L vs l oL fun v s' => R (.ok (.ret v)) s')
        (fun e s' => wpAny (model pw w) (A.deeper (callEnv (fdOf w.params f) L' f)) (leaving (callEnv (fdOf w.params f) L' f) e) (fun _ s'' => R (.error e) s'') (fun e' s'' => R (.error e') s'') s') s₁) :
    codeAny (model pw w) A (.call (.ref f) ⟨args, []⟩) R s := by
  obtain ⟨hf, hd, hb, hcd, hbind, hlen, hnd, hloc', hcell', hco, hgen, hk⟩ := K
  have hloc : ∀ x ∈ ps, (fdOf w.params f).scope.names.lookup x = some .local := fun x hx => eq_of_beq (List.all_eq_true.mp hloc' x hx)
  have hcell : ∀ x ∈ (fdOf w.params f).scope.names, x.2 ≠ .cell := fun x hx e => by have := List.all_eq_true.mp hcell' x hx; rw [e] at this; exact absurd this (by decide)
  obtain ⟨oL, es, ep, hL, hdat, hkeys, hfind⟩ := S.F.ns
  have hLn : ∀ (h' : Heap), h'.get? L = some oL → h'.Ns L (locMap vs l) := fun h' e => ⟨oL, es, ep, e, hdat, hkeys, hfind⟩
  refine codeAny_call_def (fd := fdOf w.params f) (body := bodyOf (fdOf w.params f)) (binds := ps.zip args) hA (S.F.keep _ _ (G.kin _ _ hf)) hd (G.lim.keeps S.F.keep) (codeRec_of (G.kin.keeps S.F.keep) hcd) hb (.of_eq hbind) hcell
    (fun x hx => hloc x.1 (List.of_mem_zip hx).1) (fun h₁ hns hk₁ => ?_) hco hgen hk
  have hmap : (fun x => (ps.zip args).reverse.lookup x) = locMap (ps ++ rest) (args.map some ++ List.replicate rest.length none) := by
    funext y
    rw [lookup_reverse _ (by rw [map_zip_fst ps args hlen]; exact hnd), lookup_zip ps args rest hlen]
  rw [hmap] at hns
  have hLlt : L < s.heap.objs.size := Heap.lt_size hL
  have hle : h₀.objs.size ≤ s.heap.objs.size := Nat.le_trans S.F.above (Nat.le_of_lt hLlt)
  refine wpAny_mono (h s.heap.objs.size oL _ ⟨⟨hns, fun b o e => hk₁ b o (S.F.keep b o e), hle⟩, ?_, ?_, S.gens, S.os, Nat.lt_of_lt_of_le S.tok (Nat.le_add_right _ _)⟩ (fun vs e => by rw [hdat] at e; cases e) (fun h' ⟨sl, e⟩ => ⟨_, es, ep, e, hdat, hkeys, hfind⟩)) (fun fl s₂ h₂ => ?_) fun _ _ x => x
  · intro p hp
    rcases List.mem_cons.mp hp with rfl | hp
    · exact ⟨hk₁ _ _ hL, Nat.ne_of_lt hLlt, none_of_ge S.F.above⟩
    · exact ⟨hk₁ _ _ (S.N p hp).1, Nat.ne_of_lt (Heap.lt_size (S.N p hp).1), (S.N p hp).2.2⟩
  · rw [List.map_cons, List.nodup_cons]
    refine ⟨fun hm => ?_, S.nd⟩
    obtain ⟨p, hp, e⟩ := List.mem_map.mp hm
    exact (S.N p hp).2.1 e
  · obtain ⟨gs, L₂, vs', l', led', S₂, hQ⟩ := h₂
    have hL₂ : s₂.heap.get? L = some oL := (S₂.N (L, oL) (.head _)).1
    have hnd := S₂.nd
    rw [List.map_cons, List.nodup_cons] at hnd
    have St₂ : St h₀ (os.1, gs) L vs l led' s₂ := ⟨⟨hLn _ hL₂, S₂.F.keep, S.F.above⟩, fun p hp => ⟨(S₂.N p (.tail _ hp)).1, fun e => hnd.1 (e ▸ List.mem_map.mpr ⟨p, hp, rfl⟩), (S₂.N p (.tail _ hp)).2.2⟩, hnd.2, S₂.gens, S₂.os, S₂.tok⟩
    cases fl <;> exact hQ St₂
end
end
section
open PySem PySem.W PySem.Calls PyProof.Rows
set_option maxRecDepth 100000
set_option maxHeartbeats 4000000
set_option linter.unusedVariables false

/-! ### the hands -/
def escS (ps : List (Nat × Str)) (x : Str) : Str := ps.foldl (fun x p => repS p.1 p.2 x) x
def escL (ps : List (Nat × List Nat)) (x : List Nat) : List Nat := ps.foldl (fun x p => rep1 p.1 p.2 x) x
def handPs (n : Int) : List (Nat × Str) :=
  if n = 0 then [(38, "&amp;"), (60, "&lt;"), (62, "&gt;")]
  else if n = 1 then [(38, "&amp;"), (60, "&lt;"), (62, "&gt;"), (13, "&#xD;")]
  else if n = 2 then [(38, "&amp;"), (60, "&lt;"), (62, "&gt;"), (34, "&quot;"), (13, "&#13;"), (10, "&#10;"), (9, "&#09;")]
  else if n = 3 then [(38, "&amp;"), (62, "&gt;"), (34, "&quot;")]
  else [(38, "&amp;"), (60, "&lt;"), (34, "&quot;"), (9, "&#x9;"), (10, "&#xA;"), (13, "&#xD;")]

theorem rep1_flatMap (c : Nat) (z : List Nat) (f : Nat → List Nat) (x : List Nat) : rep1 c z (x.flatMap f) = x.flatMap fun a => rep1 c z (f a) := by
  unfold rep1
  rw [List.flatMap_assoc]
theorem escL_flatMap (ps : List (Nat × List Nat)) : ∀ (x : List Nat) (f : Nat → List Nat), escL ps (x.flatMap f) = x.flatMap fun a => escL ps (f a) := by
  induction ps with
  | nil => intro x f; rfl
  | cons p r ih =>
    intro x f
    show escL r (rep1 p.1 p.2 (x.flatMap f)) = _
    rw [rep1_flatMap, ih]
    rfl
theorem escL_each (ps : List (Nat × List Nat)) (x : List Nat) : escL ps x = x.flatMap fun a => escL ps [a] := by
  have := escL_flatMap ps x (fun a => [a])
  rwa [List.flatMap_singleton'] at this
theorem escS_list (ps : List (Nat × Str)) : ∀ x : Str, (escS ps x).cps.toList = escL (ps.map fun p => (p.1, p.2.cps.toList)) x.cps.toList := by
  induction ps with
  | nil => intro x; rfl
  | cons p r ih =>
    intro x
    show (escS r (repS p.1 p.2 x)).cps.toList = _
    rw [ih]
    rfl
theorem escL_other (ps : List (Nat × List Nat)) (a : Nat) (h : ∀ p ∈ ps, p.1 ≠ a) : escL ps [a] = [a] := by
  induction ps with
  | nil => rfl
  | cons p r ih =>
    show escL r (rep1 p.1 p.2 [a]) = [a]
    have : rep1 p.1 p.2 [a] = [a] := by
      unfold rep1
      rw [List.flatMap_cons, if_neg (Ne.symm (h p (.head _)))]
      rfl
    rw [this]
    exact ih fun q hq => h q (.tail _ hq)
def keys : List Nat := [38, 60, 62, 34, 13, 10, 9]
theorem escS_len (ps : List (Nat × Str)) (x : Str) (hk : (ps.all fun p => keys.contains p.1) = true) (hd : (keys.all fun a => decide ((escL (ps.map fun p => (p.1, p.2.cps.toList)) [a]).length ≤ 6)) = true) : (escS ps x).length ≤ 6 * x.length := by
  have e : (escS ps x).length = (escS ps x).cps.toList.length := by simp [Str.length]
  have e' : x.length = x.cps.toList.length := by simp [Str.length]
  rw [e, e', escS_list, escL_each]
  refine flatMap_len _ 6 (fun a => ?_) _
  by_cases h : keys.contains a = true
  · exact of_decide_eq_true (List.all_eq_true.mp hd a (by simpa using h))
  · rw [escL_other _ a (fun p hp e => ?_)]
    · simp
    · obtain ⟨q, hq, rfl⟩ := List.mem_map.mp hp
      have := List.all_eq_true.mp hk q hq
      simp only at e
      rw [e] at this
      exact h this
theorem esc_room (ps : List (Nat × Str)) (x : Str) (n : Nat) (hx : x.length ≤ 200000) (hn : n ≤ 6) (hk : (ps.all fun p => keys.contains p.1) = true) (hd : (keys.all fun a => decide ((escL (ps.map fun p => (p.1, p.2.cps.toList)) [a]).length ≤ 6)) = true) :
    (escS ps x).length + ((escS ps x).length + 1) * n ≤ 16777216 := by
  have h := escS_len ps x hk hd
  have h2 : ((escS ps x).length + 1) * n ≤ ((escS ps x).length + 1) * 6 := Nat.mul_le_mul_left _ hn
  omega

section
variable {w : World} {A : Around} {E : Value → Shared → Prop} {s : Shared} {h₀ : Heap} {os : OsG} {L : Addr} {vs : List Str} {l : List (Option Value)} {led : List (Addr × Obj)}

def ps_ecd : List (Nat × Str) := [(38, "&amp;"), (60, "&lt;"), (62, "&gt;")]
theorem c_ecd {x : Str} {t : Tok} {Q : Value → Shared → Prop} (G : Gnd w h₀) (S : St h₀ os L vs l led s) (O : AOk A 2 10) (hx : x.length ≤ 200000) (h : ∀ t s', St h₀ os L vs l led s' → Q (.str (escS ps_ecd x) t) s') :
    wpAny (model pw w) A (call (.ref 149) [.str x t]) Q E s := by
  refine call_fn (fn_ecd w.params _) rs_ecd G S (by have := O.dp; omega) ?_
  intro L' oL s₁ S
  have V := sl_ecd_text w.params L'
  dsimp only [List.map, List.replicate, List.cons_append, List.nil_append, List.append_nil, List.length] at S
  refine seqI ?_
  refine wpAny_Try_except ?_
  refine seqI ?_
  refine escIf (c := 38) S V rfl (by simp) (by decide +kernel) (by decide +kernel) (esc_room ([] : List (Nat × Str)) x _ hx (by decide +kernel) (by decide +kernel) (by decide +kernel)) (by rfl) (by with_unfolding_all rfl) ?_
  clear S; intro t s S; dsimp only [List.set] at S
  refine thenN ?_
  refine seqI ?_
  refine escIf (c := 60) S V rfl (by simp) (by decide +kernel) (by decide +kernel) (esc_room ([(38, "&amp;")] : List (Nat × Str)) x _ hx (by decide +kernel) (by decide +kernel) (by decide +kernel)) (by rfl) (by with_unfolding_all rfl) ?_
  clear S; intro t s S; dsimp only [List.set] at S
  refine thenN ?_
  refine seqI ?_
  refine escIf (c := 62) S V rfl (by simp) (by decide +kernel) (by decide +kernel) (esc_room ([(38, "&amp;"), (60, "&lt;")] : List (Nat × Str)) x _ hx (by decide +kernel) (by decide +kernel) (by decide +kernel)) (by rfl) (by with_unfolding_all rfl) ?_
  clear S; intro t s S; dsimp only [List.set] at S
  refine thenN ?_
  refine seqI ?_
  refine wpAny_Return_some ?_
  refine nmL S V rfl ?_
  refine retI S ?_
  exact fun S => h _ _ S

def ps_ecc : List (Nat × Str) := [(38, "&amp;"), (60, "&lt;"), (62, "&gt;"), (13, "&#xD;")]
theorem c_ecc {x : Str} {t : Tok} {Q : Value → Shared → Prop} (G : Gnd w h₀) (S : St h₀ os L vs l led s) (O : AOk A 2 10) (hx : x.length ≤ 200000) (h : ∀ t s', St h₀ os L vs l led s' → Q (.str (escS ps_ecc x) t) s') :
    wpAny (model pw w) A (call (.ref 170) [.str x t]) Q E s := by
  refine call_fn (fn_ecc w.params _) rs_ecc G S (by have := O.dp; omega) ?_
  intro L' oL s₁ S
  have V := sl_ecc_text w.params L'
  dsimp only [List.map, List.replicate, List.cons_append, List.nil_append, List.append_nil, List.length] at S
  refine seqI ?_
  refine wpAny_Try_except ?_
  refine seqI ?_
  refine escIf (c := 38) S V rfl (by simp) (by decide +kernel) (by decide +kernel) (esc_room ([] : List (Nat × Str)) x _ hx (by decide +kernel) (by decide +kernel) (by decide +kernel)) (by rfl) (by with_unfolding_all rfl) ?_
  clear S; intro t s S; dsimp only [List.set] at S
  refine thenN ?_
  refine seqI ?_
  refine escIf (c := 60) S V rfl (by simp) (by decide +kernel) (by decide +kernel) (esc_room ([(38, "&amp;")] : List (Nat × Str)) x _ hx (by decide +kernel) (by decide +kernel) (by decide +kernel)) (by rfl) (by with_unfolding_all rfl) ?_
  clear S; intro t s S; dsimp only [List.set] at S
  refine thenN ?_
  refine seqI ?_
  refine escIf (c := 62) S V rfl (by simp) (by decide +kernel) (by decide +kernel) (esc_room ([(38, "&amp;"), (60, "&lt;")] : List (Nat × Str)) x _ hx (by decide +kernel) (by decide +kernel) (by decide +kernel)) (by rfl) (by with_unfolding_all rfl) ?_
  clear S; intro t s S; dsimp only [List.set] at S
  refine thenN ?_
  refine seqI ?_
  refine escIf (c := 13) S V rfl (by simp) (by decide +kernel) (by decide +kernel) (esc_room ([(38, "&amp;"), (60, "&lt;"), (62, "&gt;")] : List (Nat × Str)) x _ hx (by decide +kernel) (by decide +kernel) (by decide +kernel)) (by rfl) (by with_unfolding_all rfl) ?_
  clear S; intro t s S; dsimp only [List.set] at S
  refine thenN ?_
  refine seqI ?_
  refine wpAny_Return_some ?_
  refine nmL S V rfl ?_
  refine retI S ?_
  exact fun S => h _ _ S

def ps_eat : List (Nat × Str) := [(38, "&amp;"), (60, "&lt;"), (62, "&gt;"), (34, "&quot;"), (13, "&#13;"), (10, "&#10;"), (9, "&#09;")]
theorem c_eat {x : Str} {t : Tok} {Q : Value → Shared → Prop} (G : Gnd w h₀) (S : St h₀ os L vs l led s) (O : AOk A 2 10) (hx : x.length ≤ 200000) (h : ∀ t s', St h₀ os L vs l led s' → Q (.str (escS ps_eat x) t) s') :
    wpAny (model pw w) A (call (.ref 156) [.str x t]) Q E s := by
  refine call_fn (fn_eat w.params _) rs_eat G S (by have := O.dp; omega) ?_
  intro L' oL s₁ S
  have V := sl_eat_text w.params L'
  dsimp only [List.map, List.replicate, List.cons_append, List.nil_append, List.append_nil, List.length] at S
  refine seqI ?_
  refine wpAny_Try_except ?_
  refine seqI ?_
  refine escIf (c := 38) S V rfl (by simp) (by decide +kernel) (by decide +kernel) (esc_room ([] : List (Nat × Str)) x _ hx (by decide +kernel) (by decide +kernel) (by decide +kernel)) (by rfl) (by with_unfolding_all rfl) ?_
  clear S; intro t s S; dsimp only [List.set] at S
  refine thenN ?_
  refine seqI ?_
  refine escIf (c := 60) S V rfl (by simp) (by decide +kernel) (by decide +kernel) (esc_room ([(38, "&amp;")] : List (Nat × Str)) x _ hx (by decide +kernel) (by decide +kernel) (by decide +kernel)) (by rfl) (by with_unfolding_all rfl) ?_
  clear S; intro t s S; dsimp only [List.set] at S
  refine thenN ?_
  refine seqI ?_
  refine escIf (c := 62) S V rfl (by simp) (by decide +kernel) (by decide +kernel) (esc_room ([(38, "&amp;"), (60, "&lt;")] : List (Nat × Str)) x _ hx (by decide +kernel) (by decide +kernel) (by decide +kernel)) (by rfl) (by with_unfolding_all rfl) ?_
  clear S; intro t s S; dsimp only [List.set] at S
  refine thenN ?_
  refine seqI ?_
  refine escIf (c := 34) S V rfl (by simp) (by decide +kernel) (by decide +kernel) (esc_room ([(38, "&amp;"), (60, "&lt;"), (62, "&gt;")] : List (Nat × Str)) x _ hx (by decide +kernel) (by decide +kernel) (by decide +kernel)) (by rfl) (by with_unfolding_all rfl) ?_
  clear S; intro t s S; dsimp only [List.set] at S
  refine thenN ?_
  refine seqI ?_
  refine escIf (c := 13) S V rfl (by simp) (by decide +kernel) (by decide +kernel) (esc_room ([(38, "&amp;"), (60, "&lt;"), (62, "&gt;"), (34, "&quot;")] : List (Nat × Str)) x _ hx (by decide +kernel) (by decide +kernel) (by decide +kernel)) (by rfl) (by with_unfolding_all rfl) ?_
  clear S; intro t s S; dsimp only [List.set] at S
  refine thenN ?_
  refine seqI ?_
  refine escIf (c := 10) S V rfl (by simp) (by decide +kernel) (by decide +kernel) (esc_room ([(38, "&amp;"), (60, "&lt;"), (62, "&gt;"), (34, "&quot;"), (13, "&#13;")] : List (Nat × Str)) x _ hx (by decide +kernel) (by decide +kernel) (by decide +kernel)) (by rfl) (by with_unfolding_all rfl) ?_
  clear S; intro t s S; dsimp only [List.set] at S
  refine thenN ?_
  refine seqI ?_
  refine escIf (c := 9) S V rfl (by simp) (by decide +kernel) (by decide +kernel) (esc_room ([(38, "&amp;"), (60, "&lt;"), (62, "&gt;"), (34, "&quot;"), (13, "&#13;"), (10, "&#10;")] : List (Nat × Str)) x _ hx (by decide +kernel) (by decide +kernel) (by decide +kernel)) (by rfl) (by with_unfolding_all rfl) ?_
  clear S; intro t s S; dsimp only [List.set] at S
  refine thenN ?_
  refine seqI ?_
  refine wpAny_Return_some ?_
  refine nmL S V rfl ?_
  refine retI S ?_
  exact fun S => h _ _ S

def ps_eah : List (Nat × Str) := [(38, "&amp;"), (62, "&gt;"), (34, "&quot;")]
theorem c_eah {x : Str} {t : Tok} {Q : Value → Shared → Prop} (G : Gnd w h₀) (S : St h₀ os L vs l led s) (O : AOk A 2 10) (hx : x.length ≤ 200000) (h : ∀ t s', St h₀ os L vs l led s' → Q (.str (escS ps_eah x) t) s') :
    wpAny (model pw w) A (call (.ref 163) [.str x t]) Q E s := by
  refine call_fn (fn_eah w.params _) rs_eah G S (by have := O.dp; omega) ?_
  intro L' oL s₁ S
  have V := sl_eah_text w.params L'
  dsimp only [List.map, List.replicate, List.cons_append, List.nil_append, List.append_nil, List.length] at S
  refine seqI ?_
  refine wpAny_Try_except ?_
  refine seqI ?_
  refine escIf (c := 38) S V rfl (by simp) (by decide +kernel) (by decide +kernel) (esc_room ([] : List (Nat × Str)) x _ hx (by decide +kernel) (by decide +kernel) (by decide +kernel)) (by rfl) (by with_unfolding_all rfl) ?_
  clear S; intro t s S; dsimp only [List.set] at S
  refine thenN ?_
  refine seqI ?_
  refine escIf (c := 62) S V rfl (by simp) (by decide +kernel) (by decide +kernel) (esc_room ([(38, "&amp;")] : List (Nat × Str)) x _ hx (by decide +kernel) (by decide +kernel) (by decide +kernel)) (by rfl) (by with_unfolding_all rfl) ?_
  clear S; intro t s S; dsimp only [List.set] at S
  refine thenN ?_
  refine seqI ?_
  refine escIf (c := 34) S V rfl (by simp) (by decide +kernel) (by decide +kernel) (esc_room ([(38, "&amp;"), (62, "&gt;")] : List (Nat × Str)) x _ hx (by decide +kernel) (by decide +kernel) (by decide +kernel)) (by rfl) (by with_unfolding_all rfl) ?_
  clear S; intro t s S; dsimp only [List.set] at S
  refine thenN ?_
  refine seqI ?_
  refine wpAny_Return_some ?_
  refine nmL S V rfl ?_
  refine retI S ?_
  exact fun S => h _ _ S

def ps_eac : List (Nat × Str) := [(38, "&amp;"), (60, "&lt;"), (34, "&quot;"), (9, "&#x9;"), (10, "&#xA;"), (13, "&#xD;")]
theorem c_eac {x : Str} {t : Tok} {Q : Value → Shared → Prop} (G : Gnd w h₀) (S : St h₀ os L vs l led s) (O : AOk A 2 10) (hx : x.length ≤ 200000) (h : ∀ t s', St h₀ os L vs l led s' → Q (.str (escS ps_eac x) t) s') :
    wpAny (model pw w) A (call (.ref 177) [.str x t]) Q E s := by
  refine call_fn (fn_eac w.params _) rs_eac G S (by have := O.dp; omega) ?_
  intro L' oL s₁ S
  have V := sl_eac_text w.params L'
  dsimp only [List.map, List.replicate, List.cons_append, List.nil_append, List.append_nil, List.length] at S
  refine seqI ?_
  refine wpAny_Try_except ?_
  refine seqI ?_
  refine escIf (c := 38) S V rfl (by simp) (by decide +kernel) (by decide +kernel) (esc_room ([] : List (Nat × Str)) x _ hx (by decide +kernel) (by decide +kernel) (by decide +kernel)) (by rfl) (by with_unfolding_all rfl) ?_
  clear S; intro t s S; dsimp only [List.set] at S
  refine thenN ?_
  refine seqI ?_
  refine escIf (c := 60) S V rfl (by simp) (by decide +kernel) (by decide +kernel) (esc_room ([(38, "&amp;")] : List (Nat × Str)) x _ hx (by decide +kernel) (by decide +kernel) (by decide +kernel)) (by rfl) (by with_unfolding_all rfl) ?_
  clear S; intro t s S; dsimp only [List.set] at S
  refine thenN ?_
  refine seqI ?_
  refine escIf (c := 34) S V rfl (by simp) (by decide +kernel) (by decide +kernel) (esc_room ([(38, "&amp;"), (60, "&lt;")] : List (Nat × Str)) x _ hx (by decide +kernel) (by decide +kernel) (by decide +kernel)) (by rfl) (by with_unfolding_all rfl) ?_
  clear S; intro t s S; dsimp only [List.set] at S
  refine thenN ?_
  refine seqI ?_
  refine escIf (c := 9) S V rfl (by simp) (by decide +kernel) (by decide +kernel) (esc_room ([(38, "&amp;"), (60, "&lt;"), (34, "&quot;")] : List (Nat × Str)) x _ hx (by decide +kernel) (by decide +kernel) (by decide +kernel)) (by rfl) (by with_unfolding_all rfl) ?_
  clear S; intro t s S; dsimp only [List.set] at S
  refine thenN ?_
  refine seqI ?_
  refine escIf (c := 10) S V rfl (by simp) (by decide +kernel) (by decide +kernel) (esc_room ([(38, "&amp;"), (60, "&lt;"), (34, "&quot;"), (9, "&#x9;")] : List (Nat × Str)) x _ hx (by decide +kernel) (by decide +kernel) (by decide +kernel)) (by rfl) (by with_unfolding_all rfl) ?_
  clear S; intro t s S; dsimp only [List.set] at S
  refine thenN ?_
  refine seqI ?_
  refine escIf (c := 13) S V rfl (by simp) (by decide +kernel) (by decide +kernel) (esc_room ([(38, "&amp;"), (60, "&lt;"), (34, "&quot;"), (9, "&#x9;"), (10, "&#xA;")] : List (Nat × Str)) x _ hx (by decide +kernel) (by decide +kernel) (by decide +kernel)) (by rfl) (by with_unfolding_all rfl) ?_
  clear S; intro t s S; dsimp only [List.set] at S
  refine thenN ?_
  refine seqI ?_
  refine wpAny_Return_some ?_
  refine nmL S V rfl ?_
  refine retI S ?_
  exact fun S => h _ _ S


theorem handPs_0 : handPs 0 = ps_ecd := rfl

theorem c_write {n : Int} {x : Str} {t u : Tok} {Q : Value → Shared → Prop} (G : Gnd w h₀) (S : St h₀ os L vs l led s) (O : AOk A 3 20) (hx : x.length ≤ 200000) (h : ∀ t s', St h₀ os L vs l led s' → Q (.str (escS (handPs n) x) t) s') :
    wpAny (model pw w) A (call (.ref 184) [.int n u, .str x t]) Q E s := by
  have K := fn_write w.params (.int n u) (.str x t)
  refine call_fn K rs_write G S (by have := O.dp; omega) ?_
  intro L' oL s₁ S
  have V := sl_write_hand w.params L'
  have V2 := sl_write_text w.params L'
  have O := O.deeper (env := callEnv (fdOf w.params 184) L' 184)
  dsimp only [List.map, List.replicate, List.cons_append, List.nil_append, List.append_nil, List.length] at S
  refine seqI ?_
  repeat tb_start
  all_goals try (simp only [beq_iff_eq] at hc)
  · refine c_ecd G S (O.le (by decide) (by decide)) hx ?_
    clear S; intro t s S
    repeat tb_start
    subst hc
    exact h _ _ S
  repeat tb_start
  all_goals try (simp only [beq_iff_eq] at hc)
  · refine c_ecc G S (O.le (by decide) (by decide)) hx ?_
    clear S; intro t s S
    repeat tb_start
    subst hc
    exact h _ _ S
  repeat tb_start
  all_goals try (simp only [beq_iff_eq] at hc)
  · refine c_eat G S (O.le (by decide) (by decide)) hx ?_
    clear S; intro t s S
    repeat tb_start
    subst hc
    exact h _ _ S
  repeat tb_start
  all_goals try (simp only [beq_iff_eq] at hc)
  · refine c_eah G S (O.le (by decide) (by decide)) hx ?_
    clear S; intro t s S
    repeat tb_start
    subst hc
    exact h _ _ S
  repeat tb_start
  refine c_eac G S (O.le (by decide) (by decide)) hx ?_
  clear S; intro t s S
  repeat tb_start
  have e : handPs n = ps_eac := by
    unfold handPs
    simp_all
    rfl
  rw [e] at h
  exact h _ _ S

def keptS (n : Int) : Str := if n = 0 then "<>" else if n = 1 then "<>\r" else if n = 2 then "<>\"\r\n\t" else if n = 3 then ">\"" else "<\"\r\n\t"

theorem c_kept {n : Int} {t : Tok} {Q : Value → Shared → Prop} (G : Gnd w h₀) (S : St h₀ os L vs l led s) (O : AOk A 2 10) (h : ∀ t s', St h₀ os L vs l led s' → Q (.str (keptS n) t) s') :
    wpAny (model pw w) A (call (.ref 191) [.int n t]) Q E s := by
  have K := fn_kept w.params (.int n t)
  refine call_fn K rs_kept G S (by have := O.dp; omega) ?_
  intro L' oL s₁ S
  have V := sl_kept_hand w.params L'
  dsimp only [List.map, List.replicate, List.cons_append, List.nil_append, List.append_nil, List.length] at S
  refine seqI ?_
  repeat tb_start
  · simp only [beq_iff_eq] at hc; subst hc; exact h _ _ S
  repeat tb_start
  · simp only [beq_iff_eq] at hc; subst hc; exact h _ _ S
  repeat tb_start
  · simp only [beq_iff_eq] at hc; subst hc; exact h _ _ S
  repeat tb_start
  · simp only [beq_iff_eq] at hc; subst hc; exact h _ _ S
  repeat tb_start
  have e : keptS n = "<\"\r\n\t" := by
    unfold keptS
    simp_all
  rw [e] at h
  exact h _ _ S
end
end
section
open PySem PySem.W PySem.Calls PyProof.Rows
set_option maxRecDepth 100000
set_option maxHeartbeats 4000000
set_option linter.unusedVariables false

/-! ### carried -/
def cstep (safe : List Nat) (ins : Bool) (p : List Nat × Bool) (c : Nat) : List Nat × Bool :=
  if c ∈ safe ∨ ¬ c ∈ [13, 10, 9, 60, 62, 34] then (p.1 ++ [c], false)
  else if c ∈ [60, 62, 34] then (p.1, false)
  else ((if c ≠ 10 ∨ p.2 = false then p.1 ++ [if ins then 32 else if c = 9 then 9 else 10] else p.1), c == 13)
def carr (safe : List Nat) (ins : Bool) (x : List Nat) : List Nat := (x.foldl (cstep safe ins) ([], false)).1

theorem take_foldl {α β : Type} (f : β → α → β) (b : β) (x : List α) (i : Nat) (c : α) (h : x[i]? = some c) : (x.take (i + 1)).foldl f b = f ((x.take i).foldl f b) c := by
  rw [List.take_add_one, h]; simp

section
variable {w : World} {A : Around} {E : Value → Shared → Prop} {s : Shared} {h₀ : Heap} {os : OsG} {L : Addr} {vs : List Str} {l : List (Option Value)} {led : List (Addr × Obj)}

theorem c_carried {x y : Str} {b : Bool} {t₀ u : Tok} {Q : Value → Shared → Prop} (G : Gnd w h₀) (S : St h₀ os L vs l led s) (O : AOk A 3 20) (hx : x.length ≤ 200000)
    (h : ∀ t s', St h₀ os L vs l led s' → Q (.str ⟨(carr y.cps.toList b x.cps.toList).toArray⟩ t) s') :
    wpAny (model pw w) A (call (.ref 205) [.str x t₀, .str y u, .bool b]) Q E s := by
  have K := fn_carried w.params (.str x t₀) (.str y u) (.bool b)
  refine call_fn K rs_carried G S (by have := O.dp; omega) ?_
  intro L' oL s₁ S
  have V0 := sl_carried_page w.params L'
  have V1 := sl_carried_safe w.params L'
  have V2 := sl_carried_inside w.params L'
  have V3 := sl_carried_out w.params L'
  have V4 := sl_carried_behind w.params L'
  have V5 := sl_carried_sign w.params L'
  have O := O.deeper (env := callEnv (fdOf w.params 205) L' 205)
  dsimp only [List.map, List.replicate, List.cons_append, List.nil_append, List.append_nil, List.length] at S
  refine seqI ?_
  repeat tb_start
  refine wpFor (by intro _; rfl) ?_
  repeat tb_start
  refine forStr (led₀ := []) (fun i l led' => led' = [] ∧ ∃ o bb t' sg, (o.cps.toList, bb) = (x.cps.toList.take i).foldl (cstep y.cps.toList b) ([], false) ∧ o.length ≤ i ∧
    l = [some (.str x t₀), some (.str y u), some (.bool b), some (.str o t'), some (.bool bb), sg]) O.hd S ⟨rfl, Str.ofString "", false, _, _, by simp; rfl, by decide +kernel, rfl⟩ ?_ ?_
  · rintro i c t l led' I oI s hc ⟨rfl, o, bb, t', sg, hst, hlen, rfl⟩ S
    have hi : i < x.length := (Array.getElem?_eq_some_iff.mp hc).1
    have hstep := take_foldl (cstep y.cps.toList b) ([], false) x.cps.toList i c (by simpa using hc)
    rw [← hst] at hstep
    dsimp only [List.nil_append] at S
    repeat' tb_start
    all_goals (refine turnN (led' := []) S ⟨rfl, _, _, _, _, ?_, ?_, rfl⟩)
    all_goals first
      | omega
      | (simp only [Str.length_append, len1, lenlits]; omega)
      | (rw [hstep]; (try simp only [lit_nl, lit_cr, lit_tab, lit_sp, lit_ws, lit_mk, ne1, eq1] at *); unfold cstep; simp_all [app_list]; done)
  · rintro l led' s ⟨rfl, o, bb, t', sg, hst, hlen, rfl⟩ S
    repeat tb_start
    have : o = ⟨(carr y.cps.toList b x.cps.toList).toArray⟩ := by
      have : o.cps.toList = carr y.cps.toList b x.cps.toList := by
        unfold carr
        have e : x.cps.size = x.cps.toList.length := by simp
        rw [e, List.take_length] at hst
        rw [← hst]
      rw [← this]
    rw [this]
    exact h _ _ S

/-! ### columns -/
def cadd (size col : Int) (c : Nat) : Int := if c = 9 then col + size - col.fmod size else col + 1
def colZ (size : Int) (x : List Nat) : Int := x.foldl (cadd size) 0

theorem c_column {x : Str} {n : Int} {t₀ u : Tok} {Q : Value → Shared → Prop} (G : Gnd w h₀) (S : St h₀ os L vs l led s) (O : AOk A 3 20) (hn : n ≠ 0)
    (h : ∀ t s', St h₀ os L vs l led s' → Q (.int (colZ n x.cps.toList) t) s') :
    wpAny (model pw w) A (call (.ref 226) [.str x t₀, .int n u]) Q E s := by
  have K := fn_column w.params (.str x t₀) (.int n u)
  refine call_fn K rs_column G S (by have := O.dp; omega) ?_
  intro L' oL s₁ S
  have V0 := sl_column_lead w.params L'
  have V1 := sl_column_size w.params L'
  have V2 := sl_column_column w.params L'
  have V3 := sl_column_sign w.params L'
  have O := O.deeper (env := callEnv (fdOf w.params 226) L' 226)
  dsimp only [List.map, List.replicate, List.cons_append, List.nil_append, List.append_nil, List.length] at S
  refine seqI ?_
  repeat tb_start
  refine wpFor (by intro _; rfl) ?_
  repeat tb_start
  refine forStr (led₀ := []) (fun i l led' => led' = [] ∧ ∃ t' sg, l = [some (.str x t₀), some (.int n u), some (.int ((x.cps.toList.take i).foldl (cadd n) 0) t'), sg]) O.hd S ⟨rfl, t, none, by simp⟩ ?_ ?_
  · rintro i c t l led' I oI s hc ⟨rfl, t', sg, rfl⟩ S
    have hstep := take_foldl (cadd n) 0 x.cps.toList i c (by simpa using hc)
    dsimp only [List.nil_append] at S
    repeat' tb_start
    · refine modI S hn ?_
      clear S; intro t s S
      repeat' tb_start
      refine turnN (led' := []) S ⟨rfl, t, ?_⟩
      rw [hstep]
      simp only [lit_tab, eq1, beq_iff_eq] at hc
      conv in cadd _ _ _ => unfold cadd
      rw [if_pos hc]
      exact ⟨_, rfl⟩
    · refine turnN (led' := []) S ⟨rfl, t, ?_⟩
      rw [hstep]
      simp only [lit_tab, eq1, beq_iff_eq] at hc
      conv in cadd _ _ _ => unfold cadd
      rw [if_neg hc]
      exact ⟨_, rfl⟩
  · rintro l led' s ⟨rfl, t', sg, rfl⟩ S
    repeat tb_start
    have e : x.cps.size = x.cps.toList.length := by simp
    rw [e, List.take_length]
    exact h _ _ S
end
end
section
open PySem PySem.W PySem.Calls PyProof.Rows PySem.Spec PyProof.V
set_option maxRecDepth 100000
set_option maxHeartbeats 4000000
set_option linter.unusedVariables false

/-! ### read -/
def wash (ins : Bool) (x : Str) : Str :=
  let t := repS 13 (Str.ofString "\n") (crlfS x)
  let t := if ins then repS 9 (Str.ofString " ") (repS 10 (Str.ofString " ") t) else t
  repS 34 (Str.ofString "") (repS 62 (Str.ofString "") (repS 60 (Str.ofString "") t))

def sigD : List (PyData × PyData) := [(.str "amp", .str "&"), (.str "lt", .str "<"), (.str "gt", .str ">"), (.str "quot", .str "\""), (.str "#13", .str "\r"), (.str "#10", .str "\n"), (.str "#09", .str "\t"), (.str "#xD", .str "\r"), (.str "#xA", .str "\n"), (.str "#x9", .str "\t")]
def sigGet (x : Str) : Str := match (Spec.lookup (.str x) sigD).getD (.str "?") with | .str y => y | _ => ""
theorem lookup_all {P : PyData → Prop} (k : PyData) : ∀ (D : List (PyData × PyData)), (∀ p ∈ D, P p.2) → ∀ v, Spec.lookup k D = some v → P v
  | [], _, v, h => by cases h
  | (a, b) :: r, hp, v, h => by
    unfold Spec.lookup at h
    split at h
    · cases h; exact hp _ (.head _)
    · exact lookup_all k r (fun p hp' => hp p (.tail _ hp')) v h
theorem sigGet_is (x : Str) : (Spec.lookup (.str x) sigD).getD (.str "?") = .str (sigGet x) ∧ (sigGet x).length ≤ 1 := by
  have key : ∀ v, Spec.lookup (.str x) sigD = some v → ∃ y : Str, v = .str y ∧ y.length ≤ 1 := fun v hv => lookup_all (P := fun v => ∃ y : Str, v = .str y ∧ y.length ≤ 1) (.str x) sigD (by
    intro p hp
    simp only [sigD, List.mem_cons, List.not_mem_nil, or_false] at hp
    rcases hp with rfl | rfl | rfl | rfl | rfl | rfl | rfl | rfl | rfl | rfl <;> exact ⟨_, rfl, by decide +kernel⟩) v hv
  unfold sigGet
  cases q : Spec.lookup (.str x) sigD with
  | none => exact ⟨rfl, by decide +kernel⟩
  | some v =>
    obtain ⟨y, rfl, hy⟩ := key v q
    exact ⟨rfl, hy⟩

def decS (r p : Str) : Str := r ++ sigGet (Txt.slice p none (some (Txt.find p (Str.ofString ";")))) ++ Txt.slice p (some (Txt.find p (Str.ofString ";") + 1)) none
def readS (ins : Bool) (x : Str) : Str := match Txt.split (wash ins x) (Str.ofString "&") with
  | [] => ""
  | p :: ps => ps.foldl decS p

theorem sum_succ : ∀ (rest : List (Str × Tok)), (rest.map fun p => p.1.length + 1).sum = (rest.map fun p => p.1.length).sum + rest.length
  | [] => rfl
  | a :: r => by
    have ih := sum_succ r
    simp only [List.map_cons, List.sum_cons, List.length_cons, ih]; omega

section
variable {w : World} {A : Around} {E : Value → Shared → Prop} {s : Shared} {h₀ : Heap} {os : OsG} {L : Addr} {vs : List Str} {l : List (Option Value)} {led : List (Addr × Obj)}

theorem c_read {x : Str} {b : Bool} {t₀ : Tok} {Q : Value → Shared → Prop} (G : Gnd w h₀) (S : St h₀ os L vs l led s) (O : AOk A 3 20) (hx : x.length ≤ 2000000)
    (h : ∀ t s', St h₀ os L vs l led s' → Q (.str (readS b x) t) s') :
    wpAny (model pw w) A (call (.ref 198) [.str x t₀, .bool b]) Q E s := by
  have K := fn_read w.params (.str x t₀) (.bool b)
  refine call_fn K rs_read G S (by have := O.dp; omega) ?_
  intro L' oL s₁ S
  have V0 := sl_read_written w.params L'
  have V1 := sl_read_inside w.params L'
  have V2 := sl_read_text w.params L'
  have V3 := sl_read_signs w.params L'
  have V4 := sl_read_parts w.params L'
  have V5 := sl_read_read w.params L'
  have V6 := sl_read_part w.params L'
  have V7 := sl_read_end w.params L'
  have O := O.deeper (env := callEnv (fdOf w.params 198) L' 198)
  dsimp only [List.map, List.replicate, List.cons_append, List.nil_append, List.append_nil, List.length] at S
  refine seqJ (fun s => ∃ t, St h₀ os L' vs_read [some (.str x t₀), some (.bool b), some (.str (repS 13 (Str.ofString "\n") (crlfS x)) t), none, none, none, none, none] ((L, oL) :: led) s) ?_ ?_
  · repeat tb_start
    exact ⟨rfl, _, S⟩
  have L1 : (repS 13 (Str.ofString "\n") (crlfS x)).length ≤ 2000000 := Nat.le_trans (repS_len _ _ _ (by decide +kernel)) (Nat.le_trans (crlfS_len x) hx)
  clear S
  rintro s ⟨t, S⟩
  refine seqJ (fun s => ∃ t T, T.length ≤ 2000000 ∧ T = (if b then repS 9 (Str.ofString " ") (repS 10 (Str.ofString " ") (repS 13 (Str.ofString "\n") (crlfS x))) else repS 13 (Str.ofString "\n") (crlfS x)) ∧
    St h₀ os L' vs_read [some (.str x t₀), some (.bool b), some (.str T t), none, none, none, none, none] ((L, oL) :: led) s) ?_ ?_
  · generalize repS 13 (Str.ofString "\n") (crlfS x) = X1 at *
    repeat' tb_start
    · rw [if_pos hc]; exact ⟨rfl, _, _, by omega, rfl, S⟩
    · rw [if_neg hc]; exact ⟨rfl, _, _, by omega, rfl, S⟩
  clear S
  rintro s ⟨t, T, hT, eT, S⟩
  refine seqJ (fun s => ∃ t T, T.length ≤ 2000000 ∧ T = wash b x ∧ St h₀ os L' vs_read [some (.str x t₀), some (.bool b), some (.str T t), none, none, none, none, none] ((L, oL) :: led) s) ?_ ?_
  · repeat tb_start
    exact ⟨rfl, _, _, by omega, by rw [eT]; rfl, S⟩
  clear S eT hT T
  rintro s ⟨tT, T, hT, eT, S⟩
  refine seqI ?_
  with_reducible refine wpAny_Assign_Name ?_ (by with_unfolding_all rfl)
  with_reducible refine dictLits (D := sigD) G S ?h1 ?h2 ?h3 ?h4 ?h5 ?h6 ?h7 ?_
  case h1 => kernel_rfl
  case h2 => decide +kernel
  case h3 => decide +kernel
  case h4 => rfl
  case h5 => rfl
  case h6 => exact List.cons_ne_nil _ _
  case h7 => show 10 ≤ 15; decide
  clear S
  intro d o s hD hd S
  repeat tb_start
  refine splitC S (by decide +kernel) (Nat.le_trans (by omega) (show 8000000 ≤ sizeLine by decide +kernel)) ?_
  clear S; intro D ps s hps S
  have hw1 : ((Txt.split T (Str.ofString "&")).map (·.length)).sum + (Txt.split T (Str.ofString "&")).length ≤ T.length + 1 := split_weight T _ (by decide +kernel)
  have hne : Txt.split T (Str.ofString "&") ≠ [] := split_ne_nil _ _
  rw [← hps] at hw1 hne
  have hR : readS b x = match ps.map (·.1) with | [] => "" | p :: r => r.foldl decS p := by rw [hps, eT]; rfl
  obtain _ | ⟨p0, rest⟩ := ps
  · exact absurd rfl hne
  repeat tb_start
  have hD1 : s.heap.IsList D (strValues (p0 :: rest)).toArray := isL (S.N _ (.head _)).1
  refine itemL hD1 (by with_unfolding_all rfl) (by intro _; with_unfolding_all rfl) (by decide) (by decide) (x := .str p0.1 p0.2) (by rfl) ?_
  repeat tb_start
  refine wpFor (by intro _; rfl) ?_
  repeat tb_start
  have hD1 : s.heap.IsList D (strValues (p0 :: rest)).toArray := isL (S.N _ (.head _)).1
  have hle : (strValues (p0 :: rest)).toArray.size ≤ sizeLine := by
    refine Nat.le_trans ?_ (show 8000000 ≤ sizeLine by decide +kernel)
    simp only [List.length_map, List.map_map] at hw1
    simp only [strValues, List.size_toArray, List.length_map]
    omega
  refine lTail S hD1 (.int _ _) .none (by with_unfolding_all rfl) (by intro _; with_unfolding_all rfl) hle ?_
  clear S; intro D1 s S
  have ei : slicePick (strValues (p0 :: rest)).toArray (some 1) none none = (strValues rest).toArray := slicePick_from (strValues (p0 :: rest)).toArray 1 (by simp [strValues])
  rw [ei] at S
  have hD2 : s.heap.IsList D1 (strValues rest).toArray := isL (S.N _ (.head _)).1
  refine forList (led₀ := []) (fun i l led' => led' = [] ∧ ∃ r t pv ev, r = (rest.take i).foldl (fun r p => decS r p.1) p0.1 ∧ r.length ≤ p0.1.length + ((rest.take i).map fun p => p.1.length + 1).sum ∧
    l = [some (.str x t₀), some (.bool b), some (.str T tT), some (.ref d), some (.ref D), some (.str r t), pv, ev]) O.hd S ⟨rfl, _, _, _, _, rfl, by simp, rfl⟩ hD2 (.inr ⟨_, .head _⟩) ?_ ?_
  · rintro i v l led' I oI s hv ⟨rfl, r, t, pv, ev, er, hr, rfl⟩ S
    dsimp only [List.nil_append] at S
    obtain ⟨p, hp, rfl⟩ : ∃ p, rest[i]? = some p ∧ v = .str p.1 p.2 := by
      simp only [strValues, List.getElem?_toArray, List.getElem?_map, Option.map_eq_some_iff] at hv
      obtain ⟨p, hp, rfl⟩ := hv
      exact ⟨p, hp, rfl⟩
    have hsum : (rest.take (i + 1)).map (fun p => p.1.length + 1) = (rest.take i).map (fun p => p.1.length + 1) ++ [p.1.length + 1] := by
      rw [List.take_add_one, hp]; simp
    have hstep := take_foldl (fun (r : Str) (p : Str × Tok) => decS r p.1) p0.1 rest i p hp
    have hall : p0.1.length + ((rest.take (i + 1)).map fun p => p.1.length + 1).sum ≤ T.length + 1 := by
      have h1 : ((rest.take (i + 1)).map fun p => p.1.length + 1).sum ≤ (rest.map fun p => p.1.length + 1).sum := by
        conv => rhs; rw [← List.take_append_drop (i + 1) rest, List.map_append, List.sum_append]
        omega
      have h2 := sum_succ rest
      simp only [List.map_cons, List.map_map, List.sum_cons, List.length_cons, List.length_map] at hw1
      have h3 : (rest.map ((fun x : Str => x.length) ∘ fun x : Str × Tok => x.1)).sum = (rest.map fun p => p.1.length).sum := rfl
      omega
    rw [hsum, List.sum_append, List.sum_cons, List.sum_nil] at hall
    have hpl : p.1.length ≤ 2000001 := by omega
    have hrl : r.length ≤ 2000001 := by omega
    have hs1 := slice_len p.1 none (some (Txt.find p.1 (Str.ofString ";")))
    have hs2 := slice_len p.1 (some (Txt.find p.1 (Str.ofString ";") + 1)) none
    have hg := sigGet_is (Txt.slice p.1 none (some (Txt.find p.1 (Str.ofString ";"))))
    repeat tb_start
    intro pl
    refine gmDictGet S (by simp) hD ?_
    repeat tb_start
    refine getC S (by simp) hD hd (fun h => .str _ _) ?_
    clear S; intro v s hv2 S
    rw [hg.1] at hv2
    obtain ⟨tv, rfl, _⟩ := reads_str_inv (hv2 s.heap)
    repeat tb_start
    refine turnN (led' := []) S ⟨rfl, _, _, _, _, ?_, ?_, rfl⟩
    · rw [hstep, ← er]; rfl
    · rw [hsum, List.sum_append, List.sum_cons, List.sum_nil]
      simp only [Str.length_append]
      omega
  · rintro l led' s ⟨rfl, r, t, pv, ev, er, hr, rfl⟩ S
    repeat tb_start
    have es : (strValues rest).toArray.size = rest.length := by simp [strValues]
    rw [es, List.take_length] at er
    refine retI (S.drop (led' := (L, oL) :: led) (((List.Sublist.refl _).cons _).cons _ |>.cons _)) ?_
    intro S
    have : r = readS b x := by
      rw [hR, er]
      show _ = List.foldl decS p0.1 (rest.map (·.1))
      rw [List.foldl_map]
    rw [this]
    exact h _ _ S
end
end
section
open PySem PySem.W PySem.Calls PyProof.Rows PySem.Spec PyProof.V
set_option maxRecDepth 100000
set_option maxHeartbeats 4000000
set_option linter.unusedVariables false

/-! ### the outline by tabnanny -/
def popW (d : WsD) : List WsD → List WsD
  | t :: u :: r => if wsLess d t then popW d (u :: r) else t :: u :: r
  | st => st
def wsEq (d e : WsD) : Bool := decide (d.cnt = e.cnt ∧ d.b = e.b)
def w0 : WsD := ⟨[], 0, 0, 0⟩
def rowD (depth : Nat) (x : Str) : Dat := .tuple [.int depth, .str x]
def unevenS (ns : List Nat) : Str := Str.ofString "indent not equal e.g. " ++ fmtS ns
def olGo : List Str → Nat → List WsD → List Dat × Option (Nat × Str × Str)
  | [], _, _ => ([], none)
  | x :: r, k, st =>
    if wsLess (st.headD w0) (scan x.cps.toList) then
      (rowD st.length (Txt.slice x (some (scan x.cps.toList).n) none) :: (olGo r (k + 1) (scan x.cps.toList :: st)).1, (olGo r (k + 1) (scan x.cps.toList :: st)).2)
    else if wsEq ((popW (scan x.cps.toList) st).headD w0) (scan x.cps.toList) then
      (rowD ((popW (scan x.cps.toList) st).length - 1) (Txt.slice x (some (scan x.cps.toList).n) none) :: (olGo r (k + 1) (popW (scan x.cps.toList) st)).1, (olGo r (k + 1) (popW (scan x.cps.toList) st)).2)
    else ([], some (k, unevenS (wsWit ((popW (scan x.cps.toList) st).headD w0) (scan x.cps.toList)), x))
def linesOf (x : Str) : List Str := Txt.split x (Str.ofString "\n")
def ol (x : Str) : List Dat × Option (Nat × Str × Str) := olGo (linesOf x) 0 [scan []]

theorem popW_ne (d : WsD) : ∀ st : List WsD, st ≠ [] → popW d st ≠ []
  | [], h => absurd rfl h
  | [t], _ => by simp [popW]
  | t :: u :: r, _ => by
    unfold popW
    split
    · exact popW_ne d (u :: r) (by simp)
    · simp
theorem popW_len (d : WsD) : ∀ st : List WsD, (popW d st).length ≤ st.length
  | [] => by simp [popW]
  | [t] => by simp [popW]
  | t :: u :: r => by
    unfold popW
    split
    · have := popW_len d (u :: r); simp at this ⊢; omega
    · simp

theorem wsWit_len (d e : WsD) (hd : WsB d 100000) (he : WsB e 100000) : (wsWit d e).length ≤ 100001 ∧ ∀ n ∈ wsWit d e, n ≤ 100001 := by
  have d1 := hd.n; have d2 := hd.b; have d4 := hd.len
  have e1 := he.n; have e2 := he.b; have e4 := he.len
  have hm : max (wsLong d) (wsLong e) ≤ 100000 := by unfold wsLong; omega
  unfold wsWit
  refine ⟨Nat.le_trans (List.length_filter_le _ _) (by rw [List.length_map, List.length_range]; omega), fun n hn => ?_⟩
  obtain ⟨j, hj, rfl⟩ := List.mem_map.mp (List.mem_filter.mp hn).1
  have := List.mem_range.mp hj
  omega
theorem le_sum_mem {x : Nat} : ∀ {l : List Nat}, x ∈ l → x ≤ l.sum
  | a :: r, h => by
    rw [List.sum_cons]
    rcases List.mem_cons.mp h with rfl | h
    · omega
    · have := le_sum_mem h; omega
/-- the pile in the list -/
def Tops (led : List (Addr × Obj)) : List Value → List WsD → Prop
  | vs, [] => vs = []
  | vs, d :: st => ∃ vs' a, vs = vs' ++ [.ref a] ∧ WsAt led a d ∧ WsB d 100000 ∧ Tops led vs' st
theorem Tops.mono {led led' : List (Addr × Obj)} (q : ∀ p ∈ led, p ∈ led') : ∀ {vs : List Value} {st : List WsD}, Tops led vs st → Tops led' vs st
  | _, [], h => h
  | _, d :: st, ⟨vs', a, e, w, b, r⟩ => ⟨vs', a, e, w.mono q, b, r.mono q⟩
theorem Tops.len {led : List (Addr × Obj)} : ∀ {vs : List Value} {st : List WsD}, Tops led vs st → vs.length = st.length
  | _, [], h => by rw [show _ = [] from h]; rfl
  | _, d :: st, ⟨vs', a, e, w, b, r⟩ => by rw [e, List.length_append, r.len]; rfl
theorem WsB.of_scan {x : Str} (h : x.length ≤ 100000) : WsB (scan x.cps.toList) 100000 := by
  have key : ∀ (l : List Nat) (d : WsD) (k : Nat), WsB d k → WsB (wscan l d) (k + l.length) := by
    intro l
    induction l with
    | nil => intro d k h; exact h
    | cons c r ih =>
      intro d k h
      unfold wscan
      rw [List.length_cons, show k + (r.length + 1) = k + 1 + r.length by omega]
      split
      · exact ih _ _ h.sp
      · split
        · exact ih _ _ h.tab
        · exact ⟨by have := h.n; omega, h.b, h.nt, h.len, h.each⟩
  have := key x.cps.toList ⟨[], 0, 0, 0⟩ 0 ⟨Nat.le_refl _, Nat.le_refl _, Nat.le_refl _, Nat.le_refl _, nofun⟩
  have hl : x.cps.toList.length = x.length := by simp [Str.length]
  exact ⟨by have := this.n; unfold scan; omega, this.b, this.nt, this.len, this.each⟩

section
variable {w : World} {A : Around} {E : Value → Shared → Prop} {s : Shared} {h₀ : Heap} {os : OsG} {L : Addr} {vs : List Str} {l : List (Option Value)} {led : List (Addr × Obj)} {env : Env}

theorem cNeg1 {k : Nat} {pos pos' : Pos} {Q : Value → Shared → Prop} (S : St h₀ os L vs l led s) (h : ∀ t s', St h₀ os L vs l led s' → Q (.int (-1) t) s') : wpAny (model pw w) A (eval (.UnaryOp .USub (.Constant (.int 1) k pos) pos') env) Q E s :=
  UnaryOp_ (wpAny_Constant_int (neg_int (h _ _ (S.toks (Nat.succ_pos _)))))
theorem lastL {value slice : Expr} {T : Addr} {xs : List Value} {n : Nat} {u : Tok} {v : Value} {Q : Value → Shared → Prop} (ho : s.heap.get? T = some (lsO (xs ++ [v]) n))
    (hs : subscripted slice false (.ref T) (.int (-1) u) = operate [.ref T, .int (-1) u] (getItem (.ref T) (.int (-1) u))) (h : Q v s) : wpAny (model pw w) A (subscriptTail value slice (.ref T) (.int (-1) u)) Q E s := by
  have hl : s.heap.IsList T (xs ++ [v]).toArray := isL ho
  refine tail_any hl.typeIs slot_list_getitem.lookup (wpAny_getItem_list_neg hl (by decide) (by simp; omega) (by decide) ?_ h) hs
  have : ((-1 : Int) + ((xs ++ [v]).toArray.size : Nat)).toNat = xs.length := by simp; omega
  rw [this]
  simp
theorem c_lines {R LL : Addr} {k₀ : Nat} {oW : Obj} {ps : Tab} {x : Str} {t₀ : Tok} {envO envL : Env} {Q : Value → Shared → Prop} (G : Gnd w h₀) (C : GndC h₀) (S : St h₀ os L vs l ((R, lsO [] k₀) :: (130, tabO ps) :: (LL, oW) :: led) s) (O : AOk A 8 200) (hx : x.length ≤ 100000)
    (hfr : A.frames = some [envO, envL]) (hkO : envO.scope.kind ≠ .module) (hfO : envO.frame = some L) (hkL : envL.scope.kind ≠ .module) (hfL : envL.frame = some LL) (hdL : ∀ vs, oW.data ≠ .fields vs)
    (hQ : ∀ gs vals k cells ps' s', DatAll cells vals (ol x).1 → (ol x).2 = none → St h₀ (os.1, gs) L vs l ((R, lsO vals k) :: (130, tabO ps') :: (LL, oW) :: (cells ++ led)) s' → Q .none s')
    (hE : ∀ gs vals k cells ps' sl e dx es n fs T ts i y z s', DatAll cells vals (ol x).1 → (ol x).2 = some (i, y, z) → NagEs es ((i : Int) + 1) y z → fs[1]? = some (.ref T) → ts[3]? = some .none →
      St h₀ (os.1, gs) L vs l ((e, nagE (some dx) fs) :: (T, tbO ts) :: (LL, { oW with slots := sl }) :: (dx, dictOf es n) :: (R, lsO vals k) :: (130, tabO ps') :: (cells ++ led)) s' → E (.ref e) s') :
    wpAny (model pw w) A (call (.ref 212) [.str x t₀, .ref R]) Q E s := by
  have K := fn_lines w.params (.str x t₀) (.ref R)
  refine wpAny_call (code_fnE K rs_lines G S (by have := O.dp; omega) ?_)
  have habove := S.F.above
  clear S
  intro L' oL s₁ S hdO hnO
  have V0 := sl_lines_page w.params L'
  have V1 := sl_lines_rows w.params L'
  have V2 := sl_lines_tops w.params L'
  have V3 := sl_lines_lines w.params L'
  have V4 := sl_lines_k w.params L'
  have V5 := sl_lines_lead w.params L'
  have V6 := sl_lines_words w.params L'
  have O := O.deeper (env := callEnv (fdOf w.params 212) L' 212)
  dsimp only [List.map, List.replicate, List.cons_append, List.nil_append, List.append_nil, List.length] at S
  refine seqI ?_
  repeat tb_start
  refine c_ws G S (O.le (by omega) (by omega)) (by decide +kernel) ?_
  clear S; intro a₀ c₀ s hw₀ S
  refine newL S (show 1 ≤ sizeLine by decide +kernel) ?_
  clear S; intro T s S
  repeat tb_start
  refine splitC S (by decide +kernel) (Nat.le_trans (by omega) (show 8000000 ≤ sizeLine by decide +kernel)) ?_
  clear S; intro D pz s hps S
  have hlin : linesOf x = pz.map (·.1) := hps.symm
  repeat tb_start
  refine wpFor (by intro _; rfl) ?_
  repeat tb_start
  have hlen : pz.length ≤ x.length + 1 := by
    have := split_weight x (Str.ofString "\n") (by decide +kernel)
    rw [← hps, List.length_map] at this
    omega
  refine lenL S (isL (S.N _ (.head _)).1) (Nat.le_trans (by simp [strValues]; omega) (show 8000000 ≤ sizeLine by decide +kernel)) ?_
  clear S; intro t s S
  refine rng1 S ?_
  clear S; intro r tr v s hr S
  have S := S.perm (led' := (R, lsO [] k₀) :: (T, lstO [.ref a₀]) :: (c₀ ++ (D, lstO (strValues pz)) :: (L, oL) :: (130, tabO ps) :: (LL, oW) :: led)) (pmF _ _ _ _ _ _ _ _)
  have hD0 : (D, lstO (strValues pz)) ∈ (D, lstO (strValues pz)) :: (L, oL) :: (130, tabO ps) :: (LL, oW) :: led := .head _
  refine forRange (led₀ := (R, lsO [] k₀) :: (T, lstO [.ref a₀]) :: c₀) (led := (D, lstO (strValues pz)) :: (L, oL) :: (130, tabO ps) :: (LL, oW) :: led) (fun i l led' => ∃ vals kr tvals kt cells st rs kv lv wv, led' = (R, lsO vals kr) :: (T, lsO tvals kt) :: cells ∧ DatAll cells vals rs ∧ Tops cells tvals st ∧ st ≠ [] ∧ st.length ≤ i + 1 ∧ vals.length ≤ i ∧
    ol x = (rs ++ (olGo ((linesOf x).drop i) i st).1, (olGo ((linesOf x).drop i) i st).2) ∧
    l = [some (.str x t₀), some (.ref R), some (.ref T), some (.ref D), kv, lv, wv]) O.hd S ⟨[], k₀, [.ref a₀], 0, c₀, [scan []], [], none, none, none, rfl, .nil, ⟨[], a₀, rfl, hw₀, WsB.of_scan (x := Str.ofString "") (by decide +kernel), rfl⟩, by simp, by simp, by simp, by simp [ol], rfl⟩ hr (PySem.small_one (by decide) (by decide) (by omega) (by simp [strValues]; omega)) ?_ ?_
  · rintro i tk l led' I oI s hi ⟨vals, kr, tvals, kt, cells, st, rs, kv, lv, wv, rfl, hdat, htop, hst, hsl, hvl, hol, rfl⟩ S
    have hi' : i < pz.length := by simpa [strValues] using hi
    have e0 : (0 : Int) + (i : Nat) = ((i : Nat) : Int) := by omega
    rw [e0]
    dsimp only [List.cons_append] at S
    obtain ⟨p, hp⟩ : ∃ p, pz[i]? = some p := ⟨_, List.getElem?_eq_getElem hi'⟩
    have hpl : p.1.length ≤ 100000 := by
      have := split_weight x (Str.ofString "\n") (by decide +kernel)
      rw [← hps] at this
      have h2 := le_sum_mem (x := p.1.length) (l := (pz.map (·.1)).map (·.length)) (List.mem_map.mpr ⟨p.1, List.mem_map.mpr ⟨p, List.mem_of_getElem? hp, rfl⟩, rfl⟩)
      have h3 : 0 < pz.length := by omega
      rw [List.length_map] at this
      omega
    refine wpAny_assign_Name (stL S V4 (by simp) ?_)
    clear S; intro s S; dsimp only [List.set] at S
    refine absQ ?_
    intro QT ET hQT hET
    repeat tb_start
    refine itemL (isL (S.N (D, lstO (strValues pz)) (by simp)).1) (by with_unfolding_all rfl) (by intro _; with_unfolding_all rfl) (by omega) (by omega) (x := .str p.1 p.2) (by simp [strValues, hp]) ?_
    refine ⟨G.kin.keeps S.F.keep, ?_⟩
    refine c_ws G S (O.le (by omega) (by omega)) hpl ?_
    clear S; intro a₁ c₁ s hw₁ S
    iterate 3 tb_start
    obtain _ | ⟨d, st⟩ := st
    · exact absurd rfl hst
    have hb₁ := WsB.of_scan hpl
    have hdrop : (linesOf x).drop i = p.1 :: (linesOf x).drop (i + 1) := by
      have hlt : i < (linesOf x).length := by rw [hlin]; simpa using hi'
      rw [List.drop_eq_getElem_cons hlt]
      congr 1
      have : (linesOf x)[i]? = some p.1 := by rw [hlin, List.getElem?_map, hp]; rfl
      rw [List.getElem?_eq_getElem hlt] at this
      exact Option.some.inj this
    rw [hdrop] at hol
    unfold olGo at hol
    rw [List.headD_cons] at hol
    -- the state, told anew
    have S := S.perm (led' := (R, lsO vals kr) :: (T, lsO tvals kt) :: ((c₁ ++ cells) ++ (I, oI) :: (D, lstO (strValues pz)) :: (L, oL) :: (130, tabO ps) :: (LL, oW) :: led)) (pmA _ _ _ _ _)
    generalize hsc : scan p.1.cps.toList = e at hw₁ hb₁ hol
    have htop := htop.mono (led' := c₁ ++ cells) fun p hp => List.mem_append_right _ hp
    have hw₁ := hw₁.mono (led' := c₁ ++ cells) fun p hp => List.mem_append_left _ hp
    have hdat := hdat.mono (news' := c₁ ++ cells) fun p hp => List.mem_append_right _ hp
    generalize c₁ ++ cells = cells at S htop hw₁ hdat
    have tl : ∀ (tvals : List Value) kt, ∀ p ∈ cells, p ∈ (R, lsO vals kr) :: (T, lsO tvals kt) :: (cells ++ (I, oI) :: (D, lstO (strValues pz)) :: (L, oL) :: (130, tabO ps) :: (LL, oW) :: led) := fun tvals kt p hp => .tail _ (.tail _ (List.mem_append_left _ hp))
    refine exJ (fun s => ∃ tvals' kt' st', Tops cells tvals' st' ∧ st' ≠ [] ∧ st'.length ≤ i + 2 ∧
      ol x = (rs ++ (rowD (st'.length - 1) (Txt.slice p.1 (some e.n) none) :: (olGo ((linesOf x).drop (i + 1)) (i + 1) st').1), (olGo ((linesOf x).drop (i + 1)) (i + 1) st').2) ∧
      ∃ wv, St h₀ os L' (Str.ofString "page" :: Str.ofString "rows" :: rs_lines) [some (.str x t₀), some (.ref R), some (.ref T), some (.ref D), some (.int (i : Nat) tk), some (.ref a₁), wv]
        ((R, lsO vals kr) :: (T, lsO tvals' kt') :: (cells ++ (I, oI) :: (D, lstO (strValues pz)) :: (L, oL) :: (130, tabO ps) :: (LL, oW) :: led)) s) ?_ ?_
    · obtain ⟨tv, aT, rfl, hwT, hBT, htr⟩ := id htop
      repeat tb_start
      refine lastL (S.N (T, lsO (tv ++ [.ref aT]) kt) (.tail _ (.head _))).1 (by with_unfolding_all rfl) ?_
      intro pl
      refine wsMeth G S (hwT.mono (tl _ _)) (me_less _) (fun _ _ h => h.m5) ?_
      repeat tb_start
      refine c_less G S (O.le (by omega) (by omega)) (hwT.mono (tl _ _)) (hw₁.mono (tl _ _)) hBT hb₁ ?_
      clear S; intro s S
      repeat' tb_start
      · intro pl
        refine gmListAppend (a := T) (n := kt) (items := (tv ++ [Value.ref aT]).toArray) (S.N (T, lsO (tv ++ [.ref aT]) kt) (.tail _ (.head _))).1 ?_
        repeat tb_start
        have S := S.perm (.swap _ _ _)
        refine appL S (by have := htop.len; simp at this ⊢; simp at hsl; omega) ?_
        clear S; intro s S
        repeat tb_start
        refine ⟨rfl, _, _, e :: d :: st, ⟨_, a₁, rfl, hw₁, hb₁, htop⟩, by simp, by simp at hsl ⊢; omega, ?_, _, S.perm (.swap _ _ _)⟩
        rw [if_pos hc] at hol
        exact hol
      · rw [if_neg hc] at hol
        refine exJ (fun s => ∃ tvals' kt', Tops cells tvals' (popW e (d :: st)) ∧ St h₀ os L' (Str.ofString "page" :: Str.ofString "rows" :: rs_lines) [some (.str x t₀), some (.ref R), some (.ref T), some (.ref D), some (.int (i : Nat) tk), some (.ref a₁), wv]
          ((R, lsO vals kr) :: (T, lsO tvals' kt') :: (cells ++ (I, oI) :: (D, lstO (strValues pz)) :: (L, oL) :: (130, tabO ps) :: (LL, oW) :: led)) s) ?_ ?_
        · refine wpAny_While (codeAny_whileLoop (fun n s => ∃ tvals' kt' d' st', n = st'.length ∧ Tops cells tvals' (d' :: st') ∧ st'.length ≤ st.length ∧ popW e (d' :: st') = popW e (d :: st) ∧
            St h₀ os L' (Str.ofString "page" :: Str.ofString "rows" :: rs_lines) [some (.str x t₀), some (.ref R), some (.ref T), some (.ref D), some (.int (i : Nat) tk), some (.ref a₁), wv]
              ((R, lsO vals kr) :: (T, lsO tvals' kt') :: (cells ++ (I, oI) :: (D, lstO (strValues pz)) :: (L, oL) :: (130, tabO ps) :: (LL, oW) :: led)) s) ?_ st.length ⟨_, _, d, st, rfl, htop, Nat.le_refl _, rfl, S⟩)
          clear S
          rintro n s ⟨tvals', kt', d', st', rfl, htop', hle', hpop, S⟩
          obtain ⟨tv', aT', rfl, hwT', hBT', htr'⟩ := id htop'
          have hlen' := htop'.len
          refine isAndB (P := St h₀ os L' (Str.ofString "page" :: Str.ofString "rows" :: rs_lines) [some (.str x t₀), some (.ref R), some (.ref T), some (.ref D), some (.int (i : Nat) tk), some (.ref a₁), wv]
              ((R, lsO vals kr) :: (T, lsO (tv' ++ [.ref aT']) kt') :: (cells ++ (I, oI) :: (D, lstO (strValues pz)) :: (L, oL) :: (130, tabO ps) :: (LL, oW) :: led))) (bx := decide (0 < st'.length)) (by_ := wsLess e d') ?_ ?_ ?_
          · repeat tb_start
            refine lenL S (isL (S.N (T, lsO (tv' ++ [.ref aT']) kt') (.tail _ (.head _))).1) (Nat.le_trans (by simp at hlen' hsl ⊢; omega) (show 8000000 ≤ sizeLine by decide +kernel)) ?_
            clear S; intro t s S
            repeat tb_start
            refine ⟨?_, S⟩
            apply decide_eq_decide.mpr
            simp at hlen' ⊢
            omega
          · clear S; intro s S
            repeat tb_start
            intro pl
            refine wsMeth G S (hw₁.mono (tl _ _)) (me_less _) (fun _ _ h => h.m5) ?_
            repeat tb_start
            refine lastL (S.N (T, lsO (tv' ++ [.ref aT']) kt') (.tail _ (.head _))).1 (by with_unfolding_all rfl) ?_
            refine ⟨G.kin.keeps S.F.keep, ?_⟩
            refine c_less G S (O.le (by omega) (by omega)) (hw₁.mono (tl _ _)) (hwT'.mono (tl _ _)) hb₁ hBT' ?_
            clear S; intro s S
            repeat tb_start
            exact ⟨rfl, S⟩
          clear S; intro s S
          cases hc2 : (decide (0 < st'.length) && wsLess e d') with
          | true =>
            rw [Bool.and_eq_true, decide_eq_true_eq] at hc2
            obtain ⟨h0', hl'⟩ := hc2
            obtain _ | ⟨u, st''⟩ := st'
            · simp at h0'
            obtain ⟨tv'', aU, rfl, hwU, hBU, htr''⟩ := id htr'
            rw [if_pos rfl]
            repeat tb_start
            intro pl
            refine gmListPop (a := T) (n := kt') (items := ((tv'' ++ [Value.ref aU]) ++ [Value.ref aT']).toArray) (S.N (T, lsO ((tv'' ++ [.ref aU]) ++ [.ref aT']) kt') (.tail _ (.head _))).1 ?_
            repeat tb_start
            have S := S.perm (.swap _ _ _)
            refine popL S (by have := htr'.len; simp at this ⊢; simp at hsl hle'; omega) ?_
            clear S; intro s S
            repeat tb_start
            refine ⟨st''.length, by simp, _, _, u, st'', rfl, htr', by simp at hle'; omega, ?_, S.perm (.swap _ _ _)⟩
            rw [← hpop]
            conv => rhs; unfold popW
            rw [if_pos hl']
          | false =>
            rw [if_neg (by decide)]
            repeat tb_start
            refine ⟨rfl, _, _, ?_, S⟩
            rw [← hpop]
            have : popW e (d' :: st') = d' :: st' := by
              obtain _ | ⟨u, st''⟩ := st'
              · rfl
              · unfold popW
                rw [if_neg]
                intro q
                rw [q] at hc2
                simp at hc2
            rw [this]
            exact htop'
        clear S
        rintro s ⟨tvals', kt', htop', S⟩
        have hpne := popW_ne e (d :: st) (by simp)
        have hplen := popW_len e (d :: st)
        obtain ⟨d', st', epop⟩ : ∃ d' st', popW e (d :: st) = d' :: st' := by
          cases q : popW e (d :: st) with
          | nil => exact absurd q hpne
          | cons a b => exact ⟨a, b, rfl⟩
        rw [epop] at htop' hol hplen
        obtain ⟨tv', aT', rfl, hwT', hBT', htr'⟩ := id htop'
        rw [List.headD_cons] at hol
        repeat tb_start
        refine lastL (S.N (T, lsO (tv' ++ [.ref aT']) kt') (.tail _ (.head _))).1 (by with_unfolding_all rfl) ?_
        intro pl
        refine wsMeth G S (hwT'.mono (tl _ _)) (me_eq _) (fun _ _ h => h.m3) ?_
        repeat tb_start
        refine c_equal G S (O.le (by omega) (by omega)) (hwT'.mono (tl _ _)) (hw₁.mono (tl _ _)) ?_
        clear S; intro s S
        repeat' tb_start
        · rw [if_neg (by intro q; simp [wsEq] at q hc; rcases hc with z | z; exact z q.1; exact z q.2)] at hol
          refine lastL (S.N (T, lsO (tv' ++ [.ref aT']) kt') (.tail _ (.head _))).1 (by with_unfolding_all rfl) ?_
          intro pl
          refine wsMeth G S (hwT'.mono (tl _ _)) (me_wit _) (fun _ _ h => h.m4) ?_
          repeat tb_start
          refine c_wit G S (O.le (by omega) (by omega)) (hwT'.mono (tl _ _)) (hw₁.mono (tl _ _)) hBT' hb₁ ?_
          clear S; intro D2 xs2 k2 c2 s hwit hD2 S
          refine ⟨G.kin.keeps S.F.keep, ?_⟩
          have hwl := wsWit_len d' e hBT' hb₁
          have S := S.perm (led' := (130, tabO ps) :: (c2 ++ ((R, lsO vals kr) :: (T, lsO (tv' ++ [.ref aT']) kt') :: (cells ++ (I, oI) :: (D, lstO (strValues pz)) :: (L, oL) :: (LL, oW) :: led)))) (pmG _ _ _ _ _ _ _ _ _ _)
          refine c_fmt G C S (O.le (by omega) (by omega)) (List.mem_append_left _ hD2) (hwit.mono fun p hp => List.mem_append_left _ hp) hwl.1 hwl.2 ?_
          clear S; intro gs' ps' tf s hfl S
          have l22 : (Str.ofString "indent not equal e.g. ").length = 22 := by decide +kernel
          repeat tb_start
          refine raiseNag (P := w.params) O.hd ?_
          repeat tb_start
          refine itemL (isL (S.N (D, lstO (strValues pz)) (by simp)).1) (by with_unfolding_all rfl) (by intro _; with_unfolding_all rfl) (by omega) (by omega) (x := .str p.1 p.2) (by simp [strValues, hp]) ?_
          refine ⟨G.kin.keeps S.F.keep, ?_⟩
          refine c_nag G S (O.le (by omega) (by omega)) ?_
          clear S; intro eN dx tt esN nN s hesN S
          refine ⟨eN, dx, tt, rfl, G.kin.keeps S.F.keep _ _ (nag_obj w.params), (S.N _ (.head _)).1, ?_⟩
          refine hET _ _ ?_
          refine wpAny_leaving_again (SameStack.refl _) ?_
          have S := S.perm (led' := (eN, nagE (some dx) #[.ref tt, .none, .none, .none, .bool false, .none]) :: (L, oL) :: (LL, oW) :: (R, lsO vals kr) :: (130, tabO ps') :: (dx, dictOf esN nN) :: (T, lsO (tv' ++ [.ref aT']) kt') :: (I, oI) :: (D, lstO (strValues pz)) :: (c2 ++ (cells ++ led))) (pmK _ _ _ _ _ _ _ _ _ _ _ _)
          refine leaveSt S (by show A.frames.map _ = _; rw [hfr]; rfl) (by rw [show (callEnv (fdOf w.params 212) L' 212).scope.kind = .function from K.kind]; decide) (by rfl) hkO hfO hkL hfL hdO hdL habove hnO rfl ?_
          clear S; intro sl Tt tst s hts S
          have S := (S.perm (led' := (T, lsO (tv' ++ [.ref aT']) kt') :: (I, oI) :: (D, lstO (strValues pz)) :: (c2 ++ ((eN, nagE (some dx) ((#[.ref tt, .none, .none, .none, .bool false, .none] : Array Value).setIfInBounds 1 (.ref Tt))) :: (Tt, tbO tst) :: (LL, { oW with slots := sl }) :: (dx, dictOf esN nN) :: (R, lsO vals kr) :: (130, tabO ps') :: (cells ++ led)))) (by
            classical exact List.perm_iff_count.mpr fun a => by simp only [List.count_append, List.count_cons]; omega)).drop ((((List.sublist_append_right c2 _).cons _).cons _).cons _)
          rw [List.append_nil] at hol
          exact hE gs' vals kr cells ps' sl eN dx esN nN _ Tt tst i _ _ _ (by rw [hol]; exact hdat) (by rw [hol]; rfl) hesN (by rfl) hts S
        · rw [if_pos (by simpa [wsEq] using hc)] at hol
          refine ⟨rfl, _, _, d' :: st', htop', by simp, by simp at hsl hplen ⊢; omega, hol, _, S⟩
    · clear S htop
      rintro s ⟨tvals', kt', st', htop, hne', hsl', hol', wv, S⟩
      have hlen' := htop.len
      repeat tb_start
      intro pl
      refine gmListAppend (a := R) (n := kr) (items := vals.toArray) (S.N (R, lsO vals kr) (.head _)).1 ?_
      repeat tb_start
      refine lenL S (isL (S.N (T, lsO tvals' kt') (.tail _ (.head _))).1) (Nat.le_trans (by simp; omega) (show 8000000 ≤ sizeLine by decide +kernel)) ?_
      clear S; intro t s S
      repeat tb_start
      refine itemL (isL (S.N (D, lstO (strValues pz)) (by simp)).1) (by with_unfolding_all rfl) (by intro _; with_unfolding_all rfl) (by omega) (by omega) (x := .str p.1 p.2) (by simp [strValues, hp]) ?_
      repeat tb_start
      refine wsN G S (hw₁.mono (tl _ _)) ?_
      clear S; intro t s S
      repeat tb_start
      have ec : ((tvals'.toArray.size : Nat) : Int) - 1 = ((st'.length - 1 : Nat) : Int) := by
        have : st'.length ≠ 0 := by simpa using hne'
        simp; omega
      rw [ec]
      refine newT S (show 2 ≤ sizeLine by decide +kernel) ?_
      clear S; intro Tr s S
      repeat tb_start
      have S := S.perm (.swap _ _ _)
      refine appL S (by omega) ?_
      clear S; intro s S
      repeat tb_start
      refine hQT _ _ ?_
      refine turnN (led' := (R, _) :: (T, _) :: (Tr, _) :: cells) (S.perm (.cons _ (.swap _ _ _))) ⟨vals ++ [.ref Tr], kr + 1, tvals', kt', (Tr, _) :: cells, st', rs ++ [rowD (st'.length - 1) (Txt.slice p.1 (some e.n) none)], _, _, _, rfl, ?_, htop.mono fun p hp => .tail _ hp, hne', hsl', by simp; omega, by rw [hol', List.append_assoc]; rfl, rfl⟩
      exact (hdat.mono fun p hp => .tail _ hp).append (.one (.tuple (.head _) (.cons (.int _ _) (.cons (.str _ _) .nil))))
  · rintro l led' s ⟨vals, kr, tvals, kt, cells, st, rs, kv, lv, wv, rfl, hdat, htop, hst, hsl, hvl, hol, rfl⟩ S
    dsimp only [List.cons_append] at S
    repeat tb_start
    have hdr : (linesOf x).drop ((↑(strValues pz).toArray.size : Int) - 0).toNat = [] := List.drop_of_length_le (by rw [hlin]; simp [strValues])
    rw [hdr] at hol
    unfold olGo at hol
    rw [List.append_nil] at hol
    have S := (S.perm (led' := (T, lsO tvals kt) :: (D, lstO (strValues pz)) :: (L, oL) :: (R, lsO vals kr) :: (130, tabO ps) :: (LL, oW) :: (cells ++ led)) (pmI _ _ _ _ _ _ _ _)).drop ((List.sublist_cons_self _ _).trans (List.sublist_cons_self _ _))
    exact ⟨os.2, _, _, _, _, S, fun S => hQ os.2 vals kr cells ps _ (by rw [hol]; exact hdat) (by rw [hol]) S⟩
end
end
section
open PySem PySem.W PySem.Calls PyProof.Rows PySem.Spec PyProof.V
set_option maxRecDepth 100000
set_option maxHeartbeats 4000000
set_option linter.unusedVariables false

def outD (x : Str) : List Dat := (ol x).1 ++ match (ol x).2 with
  | none => []
  | some (i, y, z) => [.tuple [.int ((i : Int) + 1), .str y, .str z]]

def RetS (h₀ : Heap) (o : OsState) (L : Addr) (vs : List Str) (l : List (Option Value)) (oL : Obj) (Q : Value → Shared → Prop) (fl : Flow) (s₂ : Shared) : Prop :=
  ∃ gs sl L' vs' l' led', St h₀ (o, gs) L' vs' l' ((L, { oL with slots := sl }) :: led') s₂ ∧ (St h₀ (o, gs) L vs l led' s₂ → Q (match fl with | .ret v => v | _ => .none) s₂)

theorem locMap_setO : ∀ {vs : List Str} {l : List (Option Value)} {x : Str} {i : Nat} {v : Option Value}, slotOf vs x = some i → i < l.length →
    (fun y => if y = x then v else locMap vs l y) = locMap vs (l.set i v)
  | [], _, _, _, _, h, _ => by cases h
  | y :: vs, [], x, i, v, _, hl => by simp at hl
  | y :: vs, u :: l, x, i, v, h, hl => by
    unfold slotOf at h
    by_cases e : x = y
    · rw [if_pos e] at h
      cases h
      subst e
      funext z
      simp only [List.set_cons_zero, locMap]
      split <;> rfl
    · rw [if_neg e] at h
      obtain ⟨j, hj, rfl⟩ := Option.map_eq_some_iff.mp h
      have ih := locMap_setO (l := l) (v := v) hj (by simpa using hl)
      funext z
      simp only [List.set_cons_succ, locMap]
      rw [← congrFun ih z]
      by_cases h1 : z = x
      · subst h1; simp [e]
      · simp [h1]

theorem olGo_len : ∀ (ls : List Str) (k : Nat) (st : List WsD), (olGo ls k st).1.length ≤ ls.length
  | [], _, _ => by simp [olGo]
  | x :: r, k, st => by
    unfold olGo
    split
    · have := olGo_len r (k + 1) (scan x.cps.toList :: st); simp; omega
    · split
      · have := olGo_len r (k + 1) (popW (scan x.cps.toList) st); simp; omega
      · simp
theorem ol_len (x : Str) : (ol x).1.length ≤ x.length + 1 := by
  have h1 := olGo_len (linesOf x) 0 [scan []]
  have h2 := split_weight x (Str.ofString "\n") (by decide +kernel)
  unfold ol
  unfold linesOf at h1 ⊢
  omega

section
variable {M : Model} {w : World} {A : Around} {E : Value → Shared → Prop} {s : Shared} {h₀ : Heap} {os : OsG} {L : Addr} {vs : List Str} {l : List (Option Value)} {led : List (Addr × Obj)} {env : Env}

theorem call_fnS {f : Addr} {args : List Value} {Q : Value → Shared → Prop} {ps : List Str} (K : FnOk w.params f ps args) (rest : List Str)
    (G : Gnd w h₀) (S : St h₀ os L vs l led s) (hA : A.depth < recursionLimit)
    (h : ∀ L' oL s₁, (∀ vs, oL.data ≠ .fields vs) → St h₀ os L' (ps ++ rest) (args.map some ++ List.replicate rest.length none) ((L, oL) :: led) s₁ →
      wpAny (model pw w) (A.deeper (callEnv (fdOf w.params f) L' f)) (execs (bodyOf (fdOf w.params f)) (callEnv (fdOf w.params f) L' f))
        (RetS h₀ os.1 L vs l oL Q) (fun _ _ => False) s₁) :
    wpAny (model pw w) A (call (.ref f) args) Q E s := by
  obtain ⟨hf, hd, hb, hcd, hbind, hlen, hnd, hloc', hcell', hco, hgen, hk⟩ := K
  have hloc : ∀ x ∈ ps, (fdOf w.params f).scope.names.lookup x = some .local := fun x hx => eq_of_beq (List.all_eq_true.mp hloc' x hx)
  have hcell : ∀ x ∈ (fdOf w.params f).scope.names, x.2 ≠ .cell := fun x hx e => by have := List.all_eq_true.mp hcell' x hx; rw [e] at this; exact absurd this (by decide)
  obtain ⟨oL, es, ep, hL, hdat, hkeys, hfind⟩ := S.F.ns
  refine wpAny_call (codeAny_call_def (fd := fdOf w.params f) (body := bodyOf (fdOf w.params f)) (binds := ps.zip args) hA (S.F.keep _ _ (G.kin _ _ hf)) hd (G.lim.keeps S.F.keep) (codeRec_of (G.kin.keeps S.F.keep) hcd) hb (.of_eq hbind) hcell
    (fun x hx => hloc x.1 (List.of_mem_zip hx).1) (fun h₁ hns hk₁ => ?_) hco hgen hk)
  have hmap : (fun x => (ps.zip args).reverse.lookup x) = locMap (ps ++ rest) (args.map some ++ List.replicate rest.length none) := by
    funext y
    rw [lookup_reverse _ (by rw [map_zip_fst ps args hlen]; exact hnd), lookup_zip ps args rest hlen]
  rw [hmap] at hns
  have hLlt : L < s.heap.objs.size := Heap.lt_size hL
  have hle : h₀.objs.size ≤ s.heap.objs.size := Nat.le_trans S.F.above (Nat.le_of_lt hLlt)
  refine wpAny_mono (h s.heap.objs.size oL _ (fun vs e => by rw [hdat] at e; cases e) ⟨⟨hns, fun b o e => hk₁ b o (S.F.keep b o e), hle⟩, ?_, ?_, S.gens, S.os, Nat.lt_of_lt_of_le S.tok (Nat.le_add_right _ _)⟩) (fun fl s₂ h₂ => ?_) fun _ _ x => x.elim
  · intro p hp
    rcases List.mem_cons.mp hp with rfl | hp
    · exact ⟨hk₁ _ _ hL, Nat.ne_of_lt hLlt, none_of_ge S.F.above⟩
    · exact ⟨hk₁ _ _ (S.N p hp).1, Nat.ne_of_lt (Heap.lt_size (S.N p hp).1), (S.N p hp).2.2⟩
  · rw [List.map_cons, List.nodup_cons]
    refine ⟨fun hm => ?_, S.nd⟩
    obtain ⟨p, hp, e⟩ := List.mem_map.mp hm
    exact (S.N p hp).2.1 e
  · obtain ⟨gs, sl, L₂, vs', l', led', S₂, hQ⟩ := h₂
    have hL₂ := (S₂.N (L, { oL with slots := sl }) (.head _)).1
    have hnd := S₂.nd
    rw [List.map_cons, List.nodup_cons] at hnd
    have St₂ : St h₀ (os.1, gs) L vs l led' s₂ := ⟨⟨⟨_, es, ep, hL₂, hdat, hkeys, hfind⟩, S₂.F.keep, S.F.above⟩, fun p hp => ⟨(S₂.N p (.tail _ hp)).1, fun e => hnd.1 (e ▸ List.mem_map.mpr ⟨p, hp, rfl⟩), (S₂.N p (.tail _ hp)).2.2⟩, hnd.2, S₂.gens, S₂.os, S₂.tok⟩
    cases fl <;> exact hQ St₂

theorem noteSt {LL e dx T : Addr} {oW : Obj} {fs ts : Array Value} {envL : Env} {X : Shared → Prop} (S : St h₀ os L vs l ((e, nagE (some dx) fs) :: (T, tbO ts) :: (LL, oW) :: led) s)
    (hfr : A.frames = some [env, envL]) (hk : env.scope.kind ≠ .module) (hf : env.frame = some L) (hkL : envL.scope.kind ≠ .module) (hfL : envL.frame = some LL)
    (hdL : ∀ vs, oW.data ≠ .fields vs) (h1 : fs[1]? = some (.ref T)) (h3 : ts[3]? = some .none)
    (h : ∀ sl T' ts' s', ts'[3]? = some .none → St h₀ os L vs l ((e, nagE (some dx) (fs.setIfInBounds 1 (.ref T'))) :: (T', tbO ts') :: (LL, { oW with slots := sl }) :: led) s' → X s') :
    wpAny M A (noteFrame (.ref e) env) (fun _ s' => wpAny M A (setFlight (.ref e) none) (fun _ s'' => X s'') E s') E s := by
  obtain ⟨o₁, es, ep, g1, d1, hkeys, hfind⟩ := S.F.ns
  have nd := S.nd
  simp only [List.map_cons, List.nodup_cons, List.mem_cons, not_or] at nd
  obtain ⟨⟨neT, neL, neI⟩, ⟨nTL, nTI⟩, nLI, ndI⟩ := nd
  have ce := S.N _ (.head _)
  have cT := S.N _ (.tail _ (.head _))
  have cL := S.N _ (.tail _ (.tail _ (.head _)))
  have ndv : ∀ vs, o₁.data ≠ .fields vs := fun vs q => by rw [d1] at q; cases q
  refine noteX hfr ⟨hk, hf, g1, ndv⟩ ⟨hkL, hfL, cL.1, hdL⟩ ce.1 h1 cT.1 h3 fun h' T' ts' hTn hkeep ⟨slO, gO⟩ ⟨slL, gL⟩ ge gT g3 => ?_
  have inI : ∀ {p}, p ∈ led → p.1 ∈ led.map (·.1) := fun hp => List.mem_map.mpr ⟨_, hp, rfl⟩
  have fr : ∀ {b o}, h₀.get? b = some o → b ≠ e ∧ b ≠ T ∧ b ≠ L ∧ b ≠ LL := fun {b o} hb =>
    ⟨fun q => (by rw [q, ce.2.2] at hb; cases hb), fun q => (by rw [q, cT.2.2] at hb; cases hb), fun q => (by rw [q, none_of_ge S.F.above] at hb; cases hb), fun q => (by rw [q, cL.2.2] at hb; cases hb)⟩
  have fT : ∀ {p}, p ∈ ((e, nagE (some dx) fs) :: (T, tbO ts) :: (LL, oW) :: led) → p.1 ≠ T' := fun hp q => by
    have := (S.N _ hp).1
    rw [q, hTn] at this; cases this
  have hLT : L ≠ T' := fun q => by rw [q, hTn] at g1; cases g1
  refine h slL T' ts' _ g3 ⟨⟨⟨_, es, ep, gO, d1, hkeys, hfind⟩, fun b o hb => hkeep b o (fr hb).1 (fr hb).2.1 (fr hb).2.2.1 (fr hb).2.2.2 (S.F.keep b o hb), S.F.above⟩, fun p hp => ?_, ?_, S.gens, S.os, S.tok⟩
  · rcases List.mem_cons.mp hp with rfl | hp
    · exact ⟨ge, ce.2.1, ce.2.2⟩
    rcases List.mem_cons.mp hp with rfl | hp
    · refine ⟨gT, Ne.symm hLT, ?_⟩
      cases q : h₀.get? T' with
      | none => rfl
      | some o => have := S.F.keep _ _ q; rw [hTn] at this; cases this
    rcases List.mem_cons.mp hp with rfl | hp
    · exact ⟨gL, cL.2.1, cL.2.2⟩
    · have P := S.N p (.tail _ (.tail _ (.tail _ hp)))
      exact ⟨hkeep p.1 p.2 (fun q => neI (q ▸ inI hp)) (fun q => nTI (q ▸ inI hp)) P.2.1 (fun q => nLI (q ▸ inI hp)) P.1, P.2⟩
  · simp only [List.map_cons, List.nodup_cons, List.mem_cons, not_or]
    exact ⟨⟨fT (.head _), neL, neI⟩, ⟨fun q => fT (.tail _ (.tail _ (.head _))) q.symm, fun hm => by obtain ⟨p, hp, q⟩ := List.mem_map.mp hm; exact fT (.tail _ (.tail _ (.tail _ hp))) q⟩, nLI, ndI⟩

theorem flightSt {e dx T : Addr} {fs ts : Array Value} {X : Unit → Shared → Prop} (S : St h₀ os L vs l ((e, nagE (some dx) fs) :: (T, tbO ts) :: led) s) (h1 : fs[1]? = some (.ref T)) (h3 : ts[3]? = some .none)
    (h : ∀ ts' s', St h₀ os L vs l ((e, nagE (some dx) fs) :: (T, tbO ts') :: led) s' → X () s') : wpAny M A (setFlight (.ref e) none) X E s := by
  have cT := S.N _ (.tail _ (.head _))
  unfold setFlight
  refine wpAny_bind (wpAny_field (S.N _ (.head _)).1 rfl h1 ?_)
  rw [if_pos (show (Value.ref T != Value.none) = true from by simp)]
  refine wpAny_setField cT.1 rfl (Array.getElem?_eq_some_iff.mp h3).1 ?_
  have := (S.perm (.swap _ _ _)).upd (tk := s.toks) (o' := tbO (ts.setIfInBounds 3 .none)) (Heap.SameBut.update _ T (Obj.mapFields (·.setIfInBounds 3 Value.none))) (by rw [Heap.get?_update_self _ cT.1 (by rfl)]; rfl) (Nat.le_refl _)
  exact h _ _ (this.perm (.swap _ _ _))

theorem c_outline {x : Str} {t₀ : Tok} {ps : Tab} {envL : Env} {Q : Value → Shared → Prop} (G : Gnd w h₀) (C : GndC h₀) (S : St h₀ os L vs l ((130, tabO ps) :: led) s) (O : AOk A 10 300) (hx : x.length ≤ 100000)
    (hfr : A.frames = some [envL]) (hkL : envL.scope.kind ≠ .module) (hfL : envL.frame = some L)
    (hQ : ∀ gs D vals k cells ps' s', DatAll cells vals (outD x) → St h₀ (os.1, gs) L vs l ((D, lsO vals k) :: (130, tabO ps') :: (cells ++ led)) s' → Q (.ref D) s') :
    wpAny (model pw w) A (call (.ref 219) [.str x t₀]) Q E s := by
  have K := fn_outline w.params (.str x t₀)
  refine call_fnS K rs_outline G S (by have := O.dp; omega) ?_
  clear S
  intro L' oL s₁ hdO S
  have V0 := sl_outline_page w.params L'
  have V1 := sl_outline_rows w.params L'
  have V2 := sl_outline_nag w.params L'
  have O0 := O
  have O := O.deeper (env := callEnv (fdOf w.params 219) L' 219)
  have hfr' : (A.deeper (callEnv (fdOf w.params 219) L' 219)).frames = some [callEnv (fdOf w.params 219) L' 219, envL] := by show A.frames.map _ = _; rw [hfr]; rfl
  have hk' : (callEnv (fdOf w.params 219) L' 219).scope.kind ≠ .module := by rw [show (callEnv (fdOf w.params 219) L' 219).scope.kind = .function from K.kind]; decide
  dsimp only [List.map, List.replicate, List.cons_append, List.nil_append, List.append_nil, List.length] at S
  refine seqI ?_
  repeat tb_start
  refine newL S (Nat.zero_le _) ?_
  clear S; intro R s S
  repeat tb_start
  refine exJ (fun s => ∃ gs sl vals k cells ps' nv, DatAll cells vals (outD x) ∧ St h₀ (os.1, gs) L' vs_outline [some (.str x t₀), some (.ref R), nv] ((R, lsO vals k) :: (130, tabO ps') :: (L, { oL with slots := sl }) :: (cells ++ led)) s) ?_ ?_
  · refine wpAny_Try_except ?_
    repeat tb_start
    have S := S.perm (led' := (R, lsO [] 0) :: (130, tabO ps) :: (L, oL) :: led) (.cons _ (.swap _ _ _))
    refine c_lines G C S (O.le (by omega) (by omega)) hx hfr' hk' rfl hkL hfL hdO ?_ ?_
    · intro gs vals k cells ps' s' hd hn S
      repeat tb_start
      refine ⟨rfl, gs, oL.slots, vals, k, cells, ps', none, ?_, S⟩
      unfold outD
      rw [hn, List.append_nil]
      exact hd
    · intro gs vals k cells ps' sl e dx es n fs T ts i y z s hd hn hes h1 h3 S
      have hvl : vals.length ≤ 8000000 := by
        have h1 := hd.length
        have h2 := ol_len x
        omega
      refine noteSt S hfr' hk' rfl hkL hfL hdO h1 h3 ?_
      clear S; intro sl2 T2 ts2 s h32 S
      have hkey : NagAt ((e, nagE (some dx) (fs.setIfInBounds 1 (.ref T2))) :: (dx, dictOf es n) :: []) e dx (fs.setIfInBounds 1 (.ref T2)) ((i : Int) + 1) y z := ⟨.head _, es, n, .tail _ (.head _), hes⟩
      have h12 : (fs.setIfInBounds 1 (.ref T2))[1]? = some (.ref T2) := Array.getElem?_setIfInBounds_self_of_lt (Array.getElem?_eq_some_iff.mp h1).1
      generalize fs.setIfInBounds 1 (.ref T2) = fs2 at S hkey h12
      refine wpAny_handleBy_cons (codeAny_handlers_test ?_) (by intro q; cases q)
      repeat tb_start
      refine wpAny_excMatches_sub_self (G.kin.keeps S.F.keep _ _ (nag_obj w.params)) (S.N _ (.head _)).1 rfl (by decide +kernel) ?_
      refine codeAny_handlers_suite_as ?_
      refine flightSt S h12 h32 ?_
      clear S; intro ts3 s S
      repeat tb_start
      intro pl
      refine gmListAppend (a := R) (n := k) (items := vals.toArray) (S.N (R, lsO vals k) (by simp)).1 ?_
      repeat tb_start
      have hAd : ((A.deeper (callEnv (fdOf w.params 219) L' 219)).mark (some (Value.ref e))).depth < recursionLimit := by show A.depth + 1 < _; have := O0.dp; omega
      have hed : ∀ {T2 ts3 oq R q p2 cl}, (e, nagE (some dx) fs2) ∈ ((e, nagE (some dx) fs2) :: (T2, tbO ts3) :: oq :: (dx, dictOf es n) :: (R, q) :: p2 :: cl : List (Addr × Obj)) ∧ (dx, dictOf es n) ∈ ((e, nagE (some dx) fs2) :: (T2, tbO ts3) :: oq :: (dx, dictOf es n) :: (R, q) :: p2 :: cl : List (Addr × Obj)) :=
        ⟨.head _, .tail _ (.tail _ (.tail _ (.head _)))⟩
      intro pl
      refine nagMeth G S hed.1 hed.2 (f := 42) (by kernel_rfl) (by kernel_rfl) hes.2.2.2.2.1 ?_
      repeat tb_start
      refine c_get1 G S hAd ⟨hed.1, es, n, hed.2, hes⟩ ?_
      clear S; intro t1 s S
      repeat tb_start
      intro pl
      refine nagMeth G S hed.1 hed.2 (f := 49) (by kernel_rfl) (by kernel_rfl) hes.2.2.2.2.2.1 ?_
      repeat tb_start
      refine c_get2 G S hAd ⟨hed.1, es, n, hed.2, hes⟩ ?_
      clear S; intro t2 s S
      repeat tb_start
      intro pl
      refine nagMeth G S hed.1 hed.2 (f := 56) (by kernel_rfl) (by kernel_rfl) hes.2.2.2.2.2.2 ?_
      repeat tb_start
      refine c_get3 G S hAd ⟨hed.1, es, n, hed.2, hes⟩ ?_
      clear S; intro t3 s S
      refine newT S (show 3 ≤ sizeLine by decide +kernel) ?_
      clear S; intro Tr s S
      repeat tb_start
      have S := S.perm (led' := (R, lsO vals k) :: (Tr, tupO [.int ((i : Int) + 1) t1, .str y t2, .str z t3]) :: (e, nagE (some dx) fs2) :: (T2, tbO ts3) :: (L, { oL with slots := sl2 }) :: (dx, dictOf es n) :: (130, tabO ps') :: (cells ++ led)) (by
        classical exact List.perm_iff_count.mpr fun a => by simp only [List.count_append, List.count_cons]; omega)
      refine appL S hvl ?_
      clear S; intro s S
      repeat tb_start
      refine wpAny_nameGoes_keeps (m := locMap vs_outline [some (.str x t₀), some (.ref R), some (.ref e)]) V2.kind (by rw [V2.loc]; exact S.F.ns) (by rw [show (callEnv (fdOf w.params 219) L' 219).scope.kind = .function from K.kind]; rfl) fun h' v hn' hs' => ?_
      have hn2 : h'.Ns L' (locMap vs_outline [some (.str x t₀), some (.ref R), v]) := by
        have e := locMap_setO (vs := vs_outline) (l := [some (.str x t₀), some (.ref R), some (.ref e)]) (x := Str.ofString "nag") (i := 2) (v := v) V2.ix (by simp)
        rw [e, V2.loc] at hn'
        exact hn'
      obtain ⟨LED, hLED⟩ : ∃ LED : List (Addr × Obj), LED = (R, lsO (vals ++ [.ref Tr]) (k + 1)) :: (Tr, tupO [.int ((i : Int) + 1) t1, .str y t2, .str z t3]) :: (e, nagE (some dx) fs2) :: (T2, tbO ts3) :: (L, { oL with slots := sl2 }) :: (dx, dictOf es n) :: (130, tabO ps') :: (cells ++ led) := ⟨_, rfl⟩
      rw [← hLED] at S
      have hne : ∀ p ∈ LED, p.1 ≠ L' := fun p hp => (S.N p hp).2.1
      have S2 : St h₀ (os.1, gs) L' vs_outline [some (.str x t₀), some (.ref R), v] LED { s with heap := h', toks := s.toks + 1 } :=
        ⟨⟨hn2, fun b o hb => (hs'.2 b (fun q => by
            have e1 : b = L' := by rw [q, V2.loc]
            rw [e1, none_of_ge S.F.above] at hb; cases hb)).trans (S.F.keep b o hb), S.F.above⟩,
          fun p hp => ⟨(hs'.2 p.1 (fun q => hne p hp (by rw [q, V2.loc]))).trans (S.N p hp).1, (S.N p hp).2⟩, S.nd, S.gens, S.os, Nat.succ_pos _⟩
      rw [hLED] at S2
      refine ⟨rfl, gs, sl2, vals ++ [.ref Tr], k + 1, (Tr, tupO [.int ((i : Int) + 1) t1, .str y t2, .str z t3]) :: cells, ps', v, ?_, (S2.perm (led' := (e, nagE (some dx) fs2) :: (T2, tbO ts3) :: (dx, dictOf es n) :: ((R, lsO (vals ++ [.ref Tr]) (k + 1)) :: (130, tabO ps') :: (L, { oL with slots := sl2 }) :: (((Tr, tupO [.int ((i : Int) + 1) t1, .str y t2, .str z t3]) :: cells) ++ led))) (by
        classical exact List.perm_iff_count.mpr fun a => by simp only [List.count_append, List.count_cons]; omega)).drop ((((List.Sublist.refl _).cons _).cons _).cons _)⟩
      unfold outD
      rw [hn]
      exact (hd.mono fun p hp => .tail _ hp).append (.one (.tuple (.head _) (.cons (.int _ _) (.cons (.str _ _) (.cons (.str _ _) .nil)))))
  · clear S
    rintro s ⟨gs, sl, vals, k, cells, ps', nv, hd, S⟩
    repeat tb_start
    have S := S.perm (led' := (L, { oL with slots := sl }) :: (R, lsO vals k) :: (130, tabO ps') :: (cells ++ led)) (by
      classical exact List.perm_iff_count.mpr fun a => by simp only [List.count_append, List.count_cons]; omega)
    exact ⟨gs, sl, _, _, _, _, S, fun S => hQ gs R vals k cells ps' _ hd S⟩
end
end
section
open PySem PySem.W PySem.Calls PyProof.Rows PySem.Spec PyProof.V PyProof.Rows.LCg
set_option maxRecDepth 100000
set_option maxHeartbeats 4000000
set_option linter.unusedVariables false

section
variable {w : World} {A : Around} {E : Value → Shared → Prop} {s : Shared} {h₀ : Heap} {os : OsG} {L : Addr} {vs : List Str} {l : List (Option Value)} {led : List (Addr × Obj)} {env : Env}

def TestsW (w : World) (A : Around) (ifs : List Expr) (cenv : Env) (Q : Bool → Shared → Prop) (E : Value → Shared → Prop) (s : Shared) : Prop :=
  wpAny (model pw w) A (forIn ifs true fun c r => if r = true then do let ok ← isTrue c cenv (eval c cenv); pure (ForInStep.yield ok) else pure (ForInStep.yield r)) Q E s

theorem compLoopT {elt target iter : Expr} {ifs : List Expr} {scope : Scope} {pos : Pos} {it acc : Value} {R : Result → Shared → Prop} (I : Nat → Shared → Prop)
    (turn : ∀ n s, I n s → wpAny (model pw w) A (pyNext it) (fun r s₁ => match r with
      | none => R (.ok .next) s₁
      | some v => wpAny (model pw w) A (letOwnedTupleGo target it v) (fun _ s₁' => wpAny (model pw w) A (assign target env v) (fun _ s₂ =>
          wpAny (model pw w) A (forIn ifs true fun c r => if r = true then do let ok ← isTrue c env (eval c env); pure (ForInStep.yield ok) else pure (ForInStep.yield r)) (fun ok s₃ =>
            if ok = true then wpAny (model pw w) A (eval elt env) (fun x s₄ =>
              wpAny (model pw w) A (call (.builtin "list.append") [acc, x]) (fun _ s₅ => ∃ m, m < n ∧ I m s₅) (notedBy (model pw w) A env fun e s' => R (.error e) s') s₄) (notedBy (model pw w) A env fun e s' => R (.error e) s') s₃
            else ∃ m, m < n ∧ I m s₃) (notedBy (model pw w) A env fun e s' => R (.error e) s') s₂) (notedBy (model pw w) A env fun e s' => R (.error e) s') s₁') (notedBy (model pw w) A env fun e s' => R (.error e) s') s₁) (notedBy (model pw w) A env fun e s' => R (.error e) s') s)
    (n : Nat) (h : I n s) : codeAny (model pw w) A (.compLoop (.ListComp elt [⟨target, iter, ifs, 0⟩] scope pos) 0 it acc env) R s := by
  refine codeAny_loop rfl I (fun n s hI => ?_) n h
  show wpAny _ A ((compTurn (.ListComp elt [⟨target, iter, ifs, 0⟩] scope pos) 0 it acc env).onRaise (fun x => do noteFrame x env; theTreesLotGoes x)) _ _ s
  refine wpAny_noted ?_
  rw [compTurn_list]
  refine wpAny_bind (wpAny_standAt (wpAny_bind (wpAny_mono (turn n s hI) (fun r s₁ h₁ => ?_) fun _ _ h' => h')))
  cases r with
  | none => exact wpAny_pure h₁
  | some v =>
    refine wpAny_bind (wpAny_mono h₁ (fun _ s₁' h₁' => wpAny_bind (wpAny_mono h₁' (fun _ s₂ h₂ => wpAny_bind (wpAny_mono h₂ (fun ok s₃ h₃ => ?_) fun _ _ h' => h')) fun _ _ h' => h')) fun _ _ h' => h')
    cases ok with
    | false => exact wpAny_pure ⟨rfl, h₃⟩
    | true => exact wpAny_bind (wpAny_bind (wpAny_mono h₃ (fun x s₄ h₄ => wpAny_bind (wpAny_mono h₄ (fun _ s₅ h₅ => wpAny_pure (wpAny_pure ⟨rfl, h₅⟩)) fun _ _ h' => h')) fun _ _ h' => h'))
theorem letList {target : Expr} {I a : Addr} {i : Nat} {v : Value} {Q : Unit → Shared → Prop} (hI : s.heap.IsListIter I a i) (h : Q () s) : wpAny (model pw w) A (letOwnedTupleGo target (.ref I) v) Q E s := by
  obtain ⟨o, ho, hc, hd⟩ := hI
  have key : ∀ b : Addr, wpAny (model pw w) A (do
      let o ← load I
      match o.cls, o.data with
      | .type n, .fields vs =>
        if ["enumerate", "zip", "dict_itemiterator", "dict_reverseitemiterator", "odict_iterator", "itertools.zip_longest", "itertools.pairwise"].contains n && vs[0]? == some (rawInt b) then
          rule "for.unpacks-the-owned-tuple"
          updateField I 0 .none
      | _, _ => pure ()) Q E s := fun b => by
    refine wpAny_bind (wpAny_load ho ?_)
    rw [hc, hd]
    exact wpAny_pure h
  cases target <;> first | exact wpAny_pure h | (cases v <;> first | exact wpAny_pure h | exact key _)

theorem compJ {elt target iter : Expr} {ifs : List Expr} {scope : Scope} {pos : Pos} {cenv : Env} {I C D : Addr} {oI oC : Obj} {m : Str → Option Value} {fp : List Addr} {n : Nat} {P : Nat → Value → Prop} {Sti : Nat → Heap → Prop} {R : Result → Shared → Prop} {led₀ : List (Addr × Obj)}
    (J : Nat → List Value → List (Addr × Obj) → Prop)
    (W : Walks pw w A I fp [I] n P Sti) (hfp : ∀ b ∈ fp, b ≠ I → (∃ o, h₀.get? b = some o) ∨ ∃ o, (b, o) ∈ led)
    (hI : ∀ i h, Sti i h → ∃ o, h.get? I = some o) (hst : Sti 0 s.heap) (hoC : NsObj oC m) (S : St h₀ os L vs l ((C, oC) :: (D, lsO [] 0) :: (led₀ ++ (I, oI) :: led)) s) (hJ : J 0 [] led₀) (hn : n ≤ 8000000) (hJs : ∀ i ys led', J i ys led' → ys.length ≤ i)
    (turn : ∀ i v led' ys k oC m oI s, i < n → P i v → J i ys led' → NsObj oC m → St h₀ os L vs l ((C, oC) :: (D, lsO ys k) :: (led' ++ (I, oI) :: led)) s →
      wpAny (model pw w) A (assign target cenv v) (fun _ s₂ => TestsW w A ifs cenv (fun ok s₃ =>
        if ok = true then wpAny (model pw w) A (eval elt cenv) (fun x s₄ => ∃ led'' oC' m', NsObj oC' m' ∧ J (i + 1) (ys ++ [x]) led'' ∧ St h₀ os L vs l ((C, oC') :: (D, lsO ys k) :: (led'' ++ (I, oI) :: led)) s₄) (notedBy (model pw w) A cenv fun e s' => R (.error e) s') s₃
        else ∃ led'' oC' m', NsObj oC' m' ∧ J (i + 1) ys led'' ∧ St h₀ os L vs l ((C, oC') :: (D, lsO ys k) :: (led'' ++ (I, oI) :: led)) s₃) (notedBy (model pw w) A cenv fun e s' => R (.error e) s') s₂) (notedBy (model pw w) A cenv fun e s' => R (.error e) s') s)
    (done : ∀ ys k led' oC m s, J n ys led' → NsObj oC m → St h₀ os L vs l ((C, oC) :: (D, lsO ys k) :: (led' ++ led)) s → R (.ok .next) s)
    (hlet : ∀ i v s' (Q : Unit → Shared → Prop) (E : Value → Shared → Prop), Sti i s'.heap → Q () s' → wpAny (model pw w) A (letOwnedTupleGo target (.ref I) v) Q E s') :
    codeAny (model pw w) A (.compLoop (.ListComp elt [⟨target, iter, ifs, 0⟩] scope pos) 0 (.ref I) (.ref D) cenv) R s := by
  refine compLoopT (fun k s' => ∃ i ys kd led' oI oC m, J i ys led' ∧ NsObj oC m ∧ St h₀ os L vs l ((C, oC) :: (D, lsO ys kd) :: (led' ++ (I, oI) :: led)) s' ∧ Sti i s'.heap ∧ i ≤ n ∧ k = n + 1 - i) ?_ (n + 1) ⟨0, [], 0, led₀, oI, oC, m, hJ, hoC, S, hst, Nat.zero_le _, rfl⟩
  rintro k s' ⟨i, ys, kd, led', oI, oC, m, hJ, hoC, S, hst, hi, rfl⟩
  refine wpAny_with_toks (Nat.le_refl s'.toks) ?_
  have SI := S.perm (perm_mid ((C, oC) :: (D, lsO ys kd) :: led') led (I, oI))
  have nd := SI.nd
  rw [List.map_cons, List.nodup_cons] at nd
  have NI := SI.N (I, oI) (.head _)
  have moved : ∀ (h' : Heap) (tk : Nat) (oI' : Obj), (∀ b o, b ∉ [I] → s'.heap.get? b = some o → h'.get? b = some o) → h'.get? I = some oI' → s'.toks ≤ tk → St h₀ os L vs l ((I, oI') :: (((C, oC) :: (D, lsO ys kd) :: led') ++ led)) { s' with heap := h', toks := tk } := by
    intro h' tk oI' hk hI ht
    have hk' : ∀ b o, b ≠ I → s'.heap.get? b = some o → h'.get? b = some o := fun b o hb e => hk b o (by simpa using hb) e
    refine ⟨⟨?_, fun b x e => hk' b x (fun q => ?_) (SI.F.keep b x e), SI.F.above⟩, fun p hp => ?_, by have := SI.nd; simpa using this, SI.gens, SI.os, Nat.lt_of_lt_of_le SI.tok ht⟩
    · obtain ⟨oL, es, ep, hL, r⟩ := SI.F.ns
      exact ⟨oL, es, ep, hk' L oL (Ne.symm NI.2.1) hL, r⟩
    · have := NI.2.2; rw [← q, e] at this; cases this
    · rcases List.mem_cons.mp hp with rfl | hp
      · exact ⟨hI, NI.2.1, NI.2.2⟩
      · have Pp := SI.N p (.tail _ hp)
        exact ⟨hk' p.1 p.2 (fun q => nd.1 (q ▸ List.mem_map.mpr ⟨p, hp, rfl⟩)) Pp.1, Pp.2⟩
  by_cases hlt : i < n
  · refine W.item i _ _ _ hlt hst fun v h' tk hP hst' hk ht => ?_
    obtain ⟨oI', hI'⟩ := hI (i + 1) h' hst'
    have S' := moved h' tk oI' hk hI' ht
    dsimp only
    refine hlet (i + 1) v _ _ _ hst' ?_
    have key : ∀ (s₃ : Shared) (oC' : Obj) (ys' : List Value) (kd' : Nat) (led'' : List (Addr × Obj)), St h₀ os L vs l ((C, oC') :: (D, lsO ys' kd') :: (led'' ++ (I, oI') :: led)) s₃ → Sti (i + 1) s₃.heap := by
      intro s₃ oC' ys' kd' led'' S₃
      have S₃' := S₃.perm (perm_mid ((C, oC') :: (D, lsO ys' kd') :: led'') led (I, oI'))
      refine W.frame _ h' _ hst' fun b hb o e => ?_
      by_cases q : b = I
      · subst q
        rw [hI'] at e
        cases e
        exact (S₃'.N (b, oI') (.head _)).1
      · rcases hfp b hb q with ⟨o₁, e₁⟩ | ⟨o₁, hm⟩
        · have e' : h'.get? b = some o₁ := S'.F.keep b o₁ e₁
          have q2 : o₁ = o := Option.some.inj (e'.symm.trans e)
          exact q2 ▸ S₃.F.keep b o₁ e₁
        · have e' : h'.get? b = some o₁ := (S'.N (b, o₁) (.tail _ (List.mem_append_right _ hm))).1
          have q2 : o₁ = o := Option.some.inj (e'.symm.trans e)
          exact q2 ▸ (S₃'.N (b, o₁) (.tail _ (List.mem_append_right _ hm))).1
    refine wpAny_mono (turn i v led' ys kd oC m oI' _ hlt hP hJ hoC (S'.perm (perm_mid ((C, oC) :: (D, lsO ys kd) :: led') led (I, oI')).symm)) (fun _ s₂ h₂ => wpAny_mono h₂ (fun ok s₃ h₃ => ?_) fun _ _ e => e) fun _ _ e => e
    cases ok with
    | true =>
      rw [if_pos rfl] at h₃ ⊢
      refine wpAny_mono h₃ (fun x s₄ h₄ => ?_) fun _ _ e => e
      obtain ⟨led'', oC', m', hC', hJ', S₄⟩ := h₄
      have hys := hJs _ _ _ hJ
      refine appL (led := (C, oC') :: (led'' ++ (I, oI') :: led)) (S₄.perm (.swap _ _ _)) (by omega) fun s₅ S₅ => ?_
      have S₅ := S₅.perm (.swap _ _ _)
      exact ⟨n + 1 - (i + 1), by omega, i + 1, _, _, led'', oI', oC', m', hJ', hC', S₅, key _ _ _ _ _ S₅, hlt, rfl⟩
    | false =>
      rw [if_neg (by decide)] at h₃ ⊢
      obtain ⟨led'', oC', m', hC', hJ', S₄⟩ := h₃
      exact ⟨n + 1 - (i + 1), by omega, i + 1, _, _, led'', oI', oC', m', hJ', hC', S₄, key _ _ _ _ _ S₄, hlt, rfl⟩
  · have hin : i = n := by omega
    subst hin
    refine W.done _ _ _ hst fun h' tk hk ht => ?_
    have hk' : ∀ b o, b ≠ I → s'.heap.get? b = some o → h'.get? b = some o := fun b o hb e => hk b o (by simpa using hb) e
    refine done ys kd led' oC m _ hJ hoC ⟨⟨?_, fun b x e => hk' b x (fun q => ?_) (SI.F.keep b x e), SI.F.above⟩, fun p hp => ?_, nd.2, SI.gens, SI.os, Nat.lt_of_lt_of_le SI.tok ht⟩
    · obtain ⟨oL, es, ep, hL, r⟩ := SI.F.ns
      exact ⟨oL, es, ep, hk' L oL (Ne.symm NI.2.1) hL, r⟩
    · have := NI.2.2; rw [← q, e] at this; cases this
    · have Pp := SI.N p (.tail _ hp)
      exact ⟨hk' p.1 p.2 (fun q => nd.1 (q ▸ List.mem_map.mpr ⟨p, hp, rfl⟩)) Pp.1, Pp.2⟩

theorem compStart {elt target iter : Expr} {ifs : List Expr} {scope : Scope} {cl : List (Str × Addr)} {pos : Pos} {I : Addr} {oI : Obj} {fp : List Addr} {n : Nat} {P : Nat → Value → Prop} {Sti : Nat → Heap → Prop} {Q : Value → Shared → Prop} {led₀ : List (Addr × Obj)}
    (J : Nat → List Value → List (Addr × Obj) → Prop)
    (hcell : ∀ y ∈ scope.names, y.2 ≠ .cell) (hkind : scope.kind = .function)
    (W : Walks pw w A I fp [I] n P Sti) (hfp : ∀ b ∈ fp, b ≠ I → (∃ o, h₀.get? b = some o) ∨ ∃ o, (b, o) ∈ led) (hfs : ∀ b ∈ fp, b < s.heap.objs.size)
    (hI : ∀ i h, Sti i h → ∃ o, h.get? I = some o) (hst : Sti 0 s.heap) (S : St h₀ os L vs l (led₀ ++ (I, oI) :: led) s) (hJ : J 0 [] led₀) (hn : n ≤ 8000000) (hJs : ∀ i ys led', J i ys led' → ys.length ≤ i)
    (turn : ∀ i v led' ys k C D oC m oI s (E' : Value → Shared → Prop), i < n → P i v → J i ys led' → NsObj oC m → St h₀ os L vs l ((C, oC) :: (D, lsO ys k) :: (led' ++ (I, oI) :: led)) s →
      wpAny (model pw w) A (assign target (compEnvC scope cl C env) v) (fun _ s₂ => TestsW w A ifs (compEnvC scope cl C env) (fun ok s₃ =>
        if ok = true then wpAny (model pw w) A (eval elt (compEnvC scope cl C env)) (fun x s₄ => ∃ led'' oC' m', NsObj oC' m' ∧ J (i + 1) (ys ++ [x]) led'' ∧ St h₀ os L vs l ((C, oC') :: (D, lsO ys k) :: (led'' ++ (I, oI) :: led)) s₄) E' s₃
        else ∃ led'' oC' m', NsObj oC' m' ∧ J (i + 1) ys led'' ∧ St h₀ os L vs l ((C, oC') :: (D, lsO ys k) :: (led'' ++ (I, oI) :: led)) s₃) E' s₂) E' s)
    (done : ∀ D ys k led' s, J n ys led' → St h₀ os L vs l ((D, lsO ys k) :: (led' ++ led)) s → Q (.ref D) s)
    (hlet : ∀ i v s' (Q : Unit → Shared → Prop) (E : Value → Shared → Prop), Sti i s'.heap → Q () s' → wpAny (model pw w) A (letOwnedTupleGo target (.ref I) v) Q E s') :
    wpAny (model pw w) A (newList []) (fun acc s₃ => wpAny (model pw w) A (newFunctionEnv scope env.globals cl [] env.qual none .none (some env)) (fun cenv s₄ =>
      codeAny (model pw w) A (.compStart (.ListComp elt [⟨target, iter, ifs, 0⟩] scope pos) 0 (.ref I) acc { cenv with scope := relabel scope env }) (compPost (model pw w) A E none Q acc cenv.locals) s₄) E s₃) E s := by
  have hIx : ∃ o, s.heap.get? I = some o := hI 0 _ hst
  refine wpAny_newObj_type (wpAny_newFunctionEnv hcell (by intro y hy; simp at hy) (fun h₁ hns₁ hsb₁ => ?_) hkind)
  have S1 := S.push (tk := s.toks) (lstO []) (Nat.le_refl _)
  dsimp only at hns₁ hsb₁ ⊢
  generalize hH2 : s.heap.push { cls := .type "list", dict := none, data := .seq ([] : List Value).toArray } = H2 at hns₁ hsb₁ ⊢
  have S1 : St h₀ os L vs l ((s.heap.objs.size, lsO [] 0) :: (led₀ ++ (I, oI) :: led)) { s with heap := H2 } := by rw [← hH2]; exact S1
  have keep2 : ∀ b o, H2.get? b = some o → h₁.get? b = some o := fun b o e => hsb₁.extBut b o (Nat.ne_of_lt (Heap.lt_size e)) (Heap.get?_push_of_some _ e)
  obtain ⟨oC, hgC, hoC⟩ := ns_obj hns₁
  have S2 := S1.made (tk := s.toks) keep2 hgC (Nat.le_refl _) (Nat.le_refl _)
  have keep1 : ∀ b o, s.heap.get? b = some o → h₁.get? b = some o := fun b o e => keep2 b o (by rw [← hH2]; exact Heap.get?_push_of_some _ e)
  have hst1 : Sti 0 h₁ := W.frame _ _ _ hst fun b _ o e => keep1 b o e
  have loop : ∀ s₃ : Shared, s₃ = { s with heap := h₁, toks := s.toks + ([] : List (Str × Value)).length } →
      codeAny (model pw w) A (.compLoop (.ListComp elt [⟨target, iter, ifs, 0⟩] scope pos) 0 (.ref I) (.ref s.heap.objs.size) (compEnvC scope cl H2.objs.size env)) (compPost (model pw w) A E none Q (.ref s.heap.objs.size) H2.objs.size) s₃ := by
    rintro s₃ rfl
    refine compJ J W hfp hI hst1 hoC S2 hJ hn hJs (fun i v led' ys k oC m oI s hi hP hJ' ho S' => turn i v led' ys k _ _ oC m oI s _ hi hP hJ' ho S') (fun ys k led' oC m s' hJ' ho S' => ?_) hlet
    have cC := S'.N _ (.head _)
    refine ⟨m, ho.ns cC.1, fun h'' hs'' => done _ ys k led' _ hJ' ?_⟩
    have nd := S'.nd
    rw [List.map_cons, List.nodup_cons] at nd
    refine ⟨⟨?_, fun b x e => (hs''.2 b (fun q => ?_)).trans (S'.F.keep b x e), S'.F.above⟩, fun p hp => ?_, nd.2, S'.gens, S'.os, S'.tok⟩
    · obtain ⟨oL, es, ep, hL, r⟩ := S'.F.ns
      exact ⟨oL, es, ep, (hs''.2 L (Ne.symm cC.2.1)).trans hL, r⟩
    · have := cC.2.2; rw [← q, e] at this; cases this
    · have Pp := S'.N p (.tail _ hp)
      exact ⟨(hs''.2 p.1 fun q => nd.1 (q ▸ List.mem_map.mpr ⟨p, hp, rfl⟩)).trans Pp.1, Pp.2⟩
  exact codeAny_compStart_list (loop _ rfl) (W.self 0 _ _ _ hst1 (loop _ rfl))

def CompK (w : World) (A : Around) (elt target iter : Expr) (ifs : List Expr) (scope : Scope) (cl : List (Str × Addr)) (pos : Pos) (env : Env) (Q : Value → Shared → Prop) (E : Value → Shared → Prop) (it : Value) (s : Shared) : Prop :=
  wpAny (model pw w) A (newList []) (fun acc s₃ => wpAny (model pw w) A (newFunctionEnv scope env.globals cl [] env.qual none .none (some env)) (fun cenv s₄ =>
      codeAny (model pw w) A (.compStart (.ListComp elt [⟨target, iter, ifs, 0⟩] scope pos) 0 it acc { cenv with scope := relabel scope env }) (compPost (model pw w) A E none Q acc cenv.locals) s₄) E s₃) E s
theorem compFrom {elt target iter : Expr} {ifs : List Expr} {scope : Scope} {cl : List (Str × Addr)} {pos : Pos} {Q : Value → Shared → Prop} (hclos : closureFor scope env = pure cl) (hkind : scope.kind = .function)
    (hnames : ∀ y ∈ scope.names, y.2 = .local → scope.names.lookup y.1 = some .local) (hs : ∀ x, foldedSetIterable iter env x = pure x)
    (h : wpAny (model pw w) A (eval iter env) (fun xv s₁ => wpAny (model pw w) A (pyIter xv) (CompK w A elt target iter ifs scope cl pos env Q E) E s₁) E s) :
    wpAny (model pw w) A (eval (.ListComp elt [⟨target, iter, ifs, 0⟩] scope pos) env) Q E s := by
  rw [eval_ListComp]
  exact wpAny_comprehension_free (use := none) rfl hs hclos hkind hnames h

abbrev iterO (a : Addr) : Obj := { cls := .type "list_iterator", data := .fields #[.ref a, .int 0 0] }
theorem compL {elt target iter : Expr} {ifs : List Expr} {scope : Scope} {cl : List (Str × Addr)} {pos : Pos} {a : Addr} {xs : List Value} {kx : Nat} {Q : Value → Shared → Prop} {led₀ : List (Addr × Obj)} (J : Nat → List Value → List (Addr × Obj) → Prop) (hh : A.handled = none)
    (hcell : ∀ y ∈ scope.names, y.2 ≠ .cell) (hkind : scope.kind = .function) (S : St h₀ os L vs l (led₀ ++ led) s) (hm : (a, lsO xs kx) ∈ led) (hJ : J 0 [] led₀) (hn : xs.length ≤ 8000000) (hJs : ∀ i ys led', J i ys led' → ys.length ≤ i)
    (turn : ∀ i v led' ys k C D oC m I oI s (E' : Value → Shared → Prop), xs[i]? = some v → J i ys led' → NsObj oC m → St h₀ os L vs l ((C, oC) :: (D, lsO ys k) :: (led' ++ (I, oI) :: led)) s →
      wpAny (model pw w) A (assign target (compEnvC scope cl C env) v) (fun _ s₂ => TestsW w A ifs (compEnvC scope cl C env) (fun ok s₃ =>
        if ok = true then wpAny (model pw w) A (eval elt (compEnvC scope cl C env)) (fun x s₄ => ∃ led'' oC' m', NsObj oC' m' ∧ J (i + 1) (ys ++ [x]) led'' ∧ St h₀ os L vs l ((C, oC') :: (D, lsO ys k) :: (led'' ++ (I, oI) :: led)) s₄) E' s₃
        else ∃ led'' oC' m', NsObj oC' m' ∧ J (i + 1) ys led'' ∧ St h₀ os L vs l ((C, oC') :: (D, lsO ys k) :: (led'' ++ (I, oI) :: led)) s₃) E' s₂) E' s)
    (done : ∀ D ys k led' s, J xs.length ys led' → St h₀ os L vs l ((D, lsO ys k) :: (led' ++ led)) s → Q (.ref D) s) :
    wpAny (model pw w) A (pyIter (.ref a)) (CompK w A elt target iter ifs scope cl pos env Q E) E s := by
  have hl : s.heap.IsList a xs.toArray := isL (S.N (a, lsO xs kx) (List.mem_append_right _ hm)).1
  refine wpAny_pyIter_list hl ?_
  have hlt : a < s.heap.objs.size := S.lt (List.mem_append_right _ hm)
  have S' := (S.push (tk := s.toks) (iterO a) (Nat.le_refl _)).perm (perm_mid led₀ led _).symm
  refine compStart J hcell hkind (Walks.list hh s.heap.objs.size a (Nat.ne_of_lt hlt) xs.toArray) (fun b hb hn => ?_) (fun b hb => ?_) (fun i h x => let ⟨o, ho, _⟩ := x.1; ⟨o, ho⟩) ⟨⟨_, Heap.get?_push_size _ rfl, rfl, rfl⟩, hl.at fun o e => Heap.get?_push_of_some _ e⟩ S' hJ (by simpa using hn) hJs
    (fun i v led' ys k C D oC m oI s E' hi hP hJ' ho S'' => turn i v led' ys k C D oC m _ oI s E' (by simpa using hP) hJ' ho S'') (fun D ys k led' s hJ' S'' => done D ys k led' s (by simpa using hJ') S'') (fun i v s' Q E hs hq => letList hs.1 hq)
  · simp only [List.mem_cons, List.not_mem_nil, or_false] at hb
    rcases hb with rfl | rfl
    · exact absurd rfl hn
    · exact .inr ⟨_, hm⟩
  · show b < (s.heap.push _).objs.size
    rw [Heap.size_push]
    simp only [List.mem_cons, List.not_mem_nil, or_false] at hb
    rcases hb with rfl | rfl
    · exact Nat.lt_succ_self _
    · exact Nat.lt_succ_of_lt hlt
theorem compR {elt target iter : Expr} {ifs : List Expr} {scope : Scope} {cl : List (Str × Addr)} {pos : Pos} {r : Addr} {a b : Int} {t u v : Tok} {Q : Value → Shared → Prop} {led₀ : List (Addr × Obj)} (J : Nat → List Value → List (Addr × Obj) → Prop) (hh : A.handled = none)
    (hcell : ∀ y ∈ scope.names, y.2 ≠ .cell) (hkind : scope.kind = .function) (S : St h₀ os L vs l (led₀ ++ led) s) (hr : IsRange s.heap r a b 1 t u v) (hs : Builtin.Range.small a b 1 = true) (hJ : J 0 [] led₀) (hn : (b - a).toNat ≤ 8000000) (hJs : ∀ i ys led', J i ys led' → ys.length ≤ i)
    (turn : ∀ i t led' ys k C D oC m I oI s (E' : Value → Shared → Prop), i < (b - a).toNat → J i ys led' → NsObj oC m → St h₀ os L vs l ((C, oC) :: (D, lsO ys k) :: (led' ++ (I, oI) :: led)) s →
      wpAny (model pw w) A (assign target (compEnvC scope cl C env) (.int (a + (i : Nat)) t)) (fun _ s₂ => TestsW w A ifs (compEnvC scope cl C env) (fun ok s₃ =>
        if ok = true then wpAny (model pw w) A (eval elt (compEnvC scope cl C env)) (fun x s₄ => ∃ led'' oC' m', NsObj oC' m' ∧ J (i + 1) (ys ++ [x]) led'' ∧ St h₀ os L vs l ((C, oC') :: (D, lsO ys k) :: (led'' ++ (I, oI) :: led)) s₄) E' s₃
        else ∃ led'' oC' m', NsObj oC' m' ∧ J (i + 1) ys led'' ∧ St h₀ os L vs l ((C, oC') :: (D, lsO ys k) :: (led'' ++ (I, oI) :: led)) s₃) E' s₂) E' s)
    (done : ∀ D ys k led' s, J (b - a).toNat ys led' → St h₀ os L vs l ((D, lsO ys k) :: (led' ++ led)) s → Q (.ref D) s)
    (hlet : ∀ I v, letOwnedTupleGo target (.ref I) v = pure () := by intro _ _; rfl) :
    wpAny (model pw w) A (pyIter (.ref r)) (CompK w A elt target iter ifs scope cl pos env Q E) E s := by
  refine wpAny_pyIter_range hr hs ?_
  have hsz : Builtin.Range.rangeSize a b 1 = ((b - a).toNat : Int) := by
    unfold Builtin.Range.rangeSize
    rw [if_pos (by decide)]
    split
    · rw [Int.ediv_one]; omega
    · omega
  have S' := (S.push (tk := s.toks) { cls := .type "range_iterator", data := .fields #[rawInt a, rawInt (Builtin.Range.rangeSize a b 1), rawInt 1] } (Nat.le_refl _)).perm (perm_mid led₀ led _).symm
  refine compStart J hcell hkind (Walks.range (prog := pw) (w := w) hh s.heap.objs.size a 1 (b - a).toNat) (fun b hb hn => absurd (List.mem_singleton.mp hb) hn) (fun b hb => ?_) (fun i h x => ⟨_, x⟩) ?_ S' hJ hn hJs
    (fun i v led' ys k C D oC m oI s E' hi hP hJ' ho S'' => ?_) done (fun i v s' Q E hs hq => by rw [hlet _ v]; exact wpAny_pure hq)
  · rw [List.mem_singleton.mp hb]
    show _ < (s.heap.push _).objs.size
    rw [Heap.size_push]
    exact Nat.lt_succ_self _
  · show (s.heap.push _).get? s.heap.objs.size = _
    rw [Heap.get?_push_size _ rfl, hsz]
    simp
  · obtain ⟨t, rfl⟩ := hP
    rw [Int.mul_one]
    exact turn i t led' ys k C D oC m _ oI s E' hi hJ' ho S''

/-! ### names within a comprehension -/
theorem testsNil {cenv : Env} {Q : Bool → Shared → Prop} (h : Q true s) : TestsW w A [] cenv Q E s := wpAny_pure h
theorem stC {C : Addr} {oC : Obj} {m : Str → Option Value} {x : Str} {v : Value} {cenv : Env} {Q : Unit → Shared → Prop} (S : St h₀ os L vs l ((C, oC) :: led) s) (hC : cenv.locals = C) (ho : NsObj oC m) (hk : cenv.kindOf x = some .local) (hf : cenv.scope.kind = .function)
    (h : ∀ oC' s', NsObj oC' (fun y => if y = x then some v else m y) → St h₀ os L vs l ((C, oC') :: led) s' → Q () s') : wpAny (model pw w) A (storeName cenv x v) Q E s := by
  subst hC
  refine wpAny_storeName_local hk (ho.ns (S.N _ (.head _)).1) (fun h' hn' hs' => ?_) (by rw [hf]; rfl)
  obtain ⟨oC', g, ho'⟩ := ns_obj hn'
  exact h oC' _ ho' (S.upd (tk := s.toks + 1) hs' g (Nat.le_succ _))
theorem nmC {C : Addr} {oC : Obj} {m : Str → Option Value} {x : Str} {pos : Pos} {v : Value} {cenv : Env} {Q : Value → Shared → Prop} (S : St h₀ os L vs l led s) (hm : (C, oC) ∈ led) (hC : cenv.locals = C) (ho : NsObj oC m) (hk : cenv.kindOf x = some .local) (hf : cenv.scope.kind = .function) (hv : m x = some v) (hd : (x == ("__debug__" : Str)) = false) (h : Q v s) :
    wpAny (model pw w) A (eval (.Name x pos) cenv) Q E s := by
  subst hC
  exact wpAny_Name (wpAny_loadName_local hf hk (ho.ns (S.N _ hm).1) hv h) hd
theorem nmCell {c : Addr} {o : Obj} {x : Str} {pos : Pos} {v : Value} {cenv : Env} {Q : Value → Shared → Prop} (S : St h₀ os L vs l led s) (hm : (c, o) ∈ led) (ho : o.data = .cell (some v)) (hf : cenv.scope.kind = .function) (hk : cenv.kindOf x = some .cell) (hc : cenv.cells.lookup x = some c) (hd : (x == ("__debug__" : Str)) = false) (h : Q v s) :
    wpAny (model pw w) A (eval (.Name x pos) cenv) Q E s := wpAny_Name (wpAny_loadName_cell hf hk hc ⟨o, (S.N _ hm).1, ho⟩ h) hd
theorem maxL {D : Addr} {ys : List Value} {k : Nat} {ns : List Int} {Q : Value → Shared → Prop} (hh : A.handled = none) (S : St h₀ os L vs l led s) (hm : (D, lsO ys k) ∈ led) (hi : IntsAre ys ns) (hne : 0 < ns.length)
    (h : ∀ M t s', M ∈ ns → (∀ a, a ∈ ns → a ≤ M) → St h₀ os L vs l led s' → Q (.int M t) s') : wpAny (model pw w) A (call (.builtin "max") [.ref D]) Q E s :=
  wpAny_with_toks (n := s.toks) (Nat.le_refl _) (max_list_N hh S.F S.N (isL (S.N _ hm).1) hi hne fun h' M t tk F N hM ha hle => h M t _ hM ha ⟨F, N, S.nd, S.gens, S.os, Nat.lt_of_lt_of_le S.tok hle⟩)
end
end
section
open PySem PySem.W PySem.Calls PyProof.Rows PySem.Spec PyProof.V PyProof.Rows.LCg
set_option maxRecDepth 100000
set_option maxHeartbeats 4000000
set_option linter.unusedVariables false

noncomputable abbrev apEnv (P : Params) (L : Addr) : Env := callEnvC (fdOf P 231) L 231
theorem ap_c1 (P : Params) (L : Addr) : (apEnv P L).cells.lookup (Str.ofString "one") = some (L + 1) := by kernel_rfl
theorem ap_c2 (P : Params) (L : Addr) : (apEnv P L).cells.lookup (Str.ofString "other") = some (L + 1 + 1) := by kernel_rfl
theorem ap_k1 (P : Params) (L : Addr) : (apEnv P L).kindOf (Str.ofString "one") = some .cell := by kernel_rfl
theorem ap_k2 (P : Params) (L : Addr) : (apEnv P L).kindOf (Str.ofString "other") = some .cell := by kernel_rfl
theorem ap_top (P : Params) (L : Addr) : Slot (apEnv P L) L [Str.ofString "top"] (Str.ofString "top") 0 := ⟨by kernel_rfl, rfl, by kernel_rfl, by kernel_rfl, by decide +kernel⟩
theorem ap_body (P : Params) : (fdOf P 231).body = .stmts (bodyOf (fdOf P 231)) := by kernel_rfl
theorem ap_look (P : Params) : (KF P).lookup 231 = some (((KF P).lookup 231).getD default) := by kernel_rfl
theorem ap_data (P : Params) : (((KF P).lookup 231).getD default).data = .func (fdOf P 231) := by kernel_rfl
theorem ap_code (P : Params) : codeIn (KF P) (fdOf P 231).code (fdOf P 231).qualname = true := by kernel_rfl
theorem ap_bind (P : Params) (a b : Value) : bindArgs (fdOf P 231) ⟨[a, b], []⟩ = pure [(Str.ofString "one", a), (Str.ofString "other", b)] := by kernel_rfl

section
variable {w : World} {A : Around} {E : Value → Shared → Prop} {s : Shared} {h₀ : Heap} {os : OsG} {L : Addr} {vs : List Str} {l : List (Option Value)} {led : List (Addr × Obj)} {env : Env}

theorem call_ap {x y : Str} {t u : Tok} {Q : Value → Shared → Prop} (G : Gnd w h₀) (S : St h₀ os L vs l led s) (hA : A.depth < recursionLimit)
    (h : ∀ L' oL o1 o2 s₁, o1.data = .cell (some (.str x t)) → o2.data = .cell (some (.str y u)) → (∀ tk, 0 < tk → St h₀ os L' [Str.ofString "top"] [none] ((L' + 1, o1) :: (L' + 1 + 1, o2) :: (L, oL) :: led) { s₁ with toks := tk }) →
      wpAny (model pw w) (A.deeper (apEnv w.params L')) (execs (bodyOf (fdOf w.params 231)) (apEnv w.params L')) (Ret h₀ os L vs l oL Q) (fun _ _ => False) s₁) :
    wpAny (model pw w) A (call (.ref 231) [.str x t, .str y u]) Q E s := by
  obtain ⟨oL, hL, hLf, hLn⟩ := S.under
  have hLlt : L < s.heap.objs.size := Heap.lt_size hL
  refine wpAny_call (codeAny_call_cells (fd := fdOf w.params 231) hA (S.F.keep _ _ (G.kin _ _ (ap_look _))) (ap_data _) (G.lim.keeps S.F.keep) (codeRec_of (G.kin.keeps S.F.keep) (ap_code _)) (ap_body _) (ap_bind _ _ _) (by kernel_rfl) ?_ (fun s₁ X => ?_) (by kernel_rfl) (by kernel_rfl) (by kernel_rfl))
  · intro p hp
    simp only [List.mem_cons, List.not_mem_nil, or_false] at hp
    rcases hp with rfl | rfl
    · exact .inr ⟨ap_k1 w.params 0, by rw [show (cellsFrom _ _ []).lookup _ = _ from ap_c1 w.params s.heap.objs.size]; rfl⟩
    · exact .inr ⟨ap_k2 w.params 0, by rw [show (cellsFrom _ _ []).lookup _ = _ from ap_c2 w.params s.heap.objs.size]; rfl⟩
  have hm : bindL (apEnv w.params s.heap.objs.size).kindOf [(Str.ofString "one", Value.str x t), (Str.ofString "other", Value.str y u)] (fun _ => none) = locMap [Str.ofString "top"] [none] := by
    funext z
    unfold bindL bindL bindL
    rw [ap_k1, ap_k2, if_neg (by decide), if_neg (by decide)]
    simp only [locMap]
    split <;> rfl
  obtain ⟨o1, g1, d1⟩ := X.cell _ _ (ap_c1 w.params s.heap.objs.size)
  obtain ⟨o2, g2, d2⟩ := X.cell _ _ (ap_c2 w.params s.heap.objs.size)
  have c1 : bindC (apEnv w.params s.heap.objs.size).kindOf [(Str.ofString "one", Value.str x t), (Str.ofString "other", Value.str y u)] (fun _ => none) (Str.ofString "one") = some (.str x t) := by
    unfold bindC bindC bindC
    rw [ap_k1, ap_k2]
    rfl
  have c2 : bindC (apEnv w.params s.heap.objs.size).kindOf [(Str.ofString "one", Value.str x t), (Str.ofString "other", Value.str y u)] (fun _ => none) (Str.ofString "other") = some (.str y u) := by
    unfold bindC bindC bindC
    rw [ap_k1, ap_k2]
    rfl
  rw [c1] at d1
  rw [c2] at d2
  have hk := X.toInCall.keep
  have hns := X.toInCall.ns
  rw [hm] at hns
  obtain ⟨h', tk, rfl, _⟩ := X.done
  have hle : h₀.objs.size ≤ s.heap.objs.size := Nat.le_trans S.F.above (Nat.le_of_lt hLlt)
  refine wpAny_mono (h s.heap.objs.size oL o1 o2 _ d1 d2 fun tk' htk => ⟨⟨hns, fun b o e => hk b o (S.F.keep b o e), hle⟩, ?_, ?_, S.gens, S.os, htk⟩) (fun fl s₂ h₂ => ?_) fun _ _ x => x.elim
  · intro p hp
    rcases List.mem_cons.mp hp with rfl | hp
    · exact ⟨g1, Nat.succ_ne_self _, none_of_ge (Nat.le_trans hle (Nat.le_succ _))⟩
    rcases List.mem_cons.mp hp with rfl | hp
    · exact ⟨g2, Nat.ne_of_gt (Nat.lt_of_lt_of_le (Nat.lt_succ_self _) (Nat.le_succ _)), none_of_ge (Nat.le_trans hle (Nat.le_trans (Nat.le_succ _) (Nat.le_succ _)))⟩
    rcases List.mem_cons.mp hp with rfl | hp
    · exact ⟨hk _ _ hL, Nat.ne_of_lt hLlt, none_of_ge S.F.above⟩
    · exact ⟨hk _ _ (S.N p hp).1, Nat.ne_of_lt (Heap.lt_size (S.N p hp).1), (S.N p hp).2.2⟩
  · have nd := S.nd
    have hlt : ∀ p ∈ led, p.1 < s.heap.objs.size := fun p hp => S.lt hp
    simp only [List.map_cons, List.nodup_cons, List.mem_cons, not_or]
    refine ⟨⟨Nat.ne_of_lt (Nat.lt_succ_self _), fun q => ?_, fun hm => ?_⟩, ⟨fun q => ?_, fun hm => ?_⟩, fun hm => ?_, nd⟩
    · exact absurd hLlt (by rw [← q]; exact Nat.not_lt.mpr (Nat.le_succ _))
    · obtain ⟨p, hp, e⟩ := List.mem_map.mp hm
      exact absurd (hlt p hp) (by rw [e]; exact Nat.not_lt.mpr (Nat.le_succ _))
    · exact absurd hLlt (by rw [← q]; exact Nat.not_lt.mpr (Nat.le_trans (Nat.le_succ _) (Nat.le_succ _)))
    · obtain ⟨p, hp, e⟩ := List.mem_map.mp hm
      exact absurd (hlt p hp) (by rw [e]; exact Nat.not_lt.mpr (Nat.le_trans (Nat.le_succ _) (Nat.le_succ _)))
    · obtain ⟨p, hp, e⟩ := List.mem_map.mp hm
      exact (S.N p hp).2.1 e
  · obtain ⟨L₂, vs', l', led', S₂, hQ⟩ := h₂
    have hL₂ : s₂.heap.get? L = some oL := (S₂.N (L, oL) (.head _)).1
    have hnd := S₂.nd
    rw [List.map_cons, List.nodup_cons] at hnd
    have St₂ : St h₀ os L vs l led' s₂ := ⟨⟨hLn _ hL₂, S₂.F.keep, S.F.above⟩, fun p hp => ⟨(S₂.N p (.tail _ hp)).1, fun e => hnd.1 (e ▸ List.mem_map.mpr ⟨p, hp, rfl⟩), (S₂.N p (.tail _ hp)).2.2⟩, hnd.2, S₂.gens, S₂.os, S₂.tok⟩
    cases fl <;> exact hQ St₂

def runsOf (x y : Str) : List Str := Txt.split x (Str.ofString "\t") ++ Txt.split y (Str.ofString "\t")
def apTop (x y : Str) : Nat := 1 + ((runsOf x y).map (·.length)).foldl max 0
def apart (x y : Str) : List (Nat × Int) := (List.range (apTop x y)).map fun j => (j + 1, colZ ((j + 1 : Nat) : Int) x.cps.toList - colZ ((j + 1 : Nat) : Int) y.cps.toList)
def Told (led : List (Addr × Obj)) : List Value → List (Nat × Int) → Prop
  | [], [] => True
  | v :: vs, n :: ns => (∃ T t u, v = .ref T ∧ (T, tupO [.int n.1 t, .int n.2 u]) ∈ led) ∧ Told led vs ns
  | _, _ => False
theorem Told.mono {led led' : List (Addr × Obj)} (q : ∀ p ∈ led, p ∈ led') : ∀ {vs : List Value} {ns : List (Nat × Int)}, Told led vs ns → Told led' vs ns
  | [], [], _ => trivial
  | v :: vs, n :: ns, ⟨⟨T, t, u, e, m⟩, r⟩ => ⟨⟨T, t, u, e, q _ m⟩, r.mono q⟩
  | [], _ :: _, h => h.elim
  | _ :: _, [], h => h.elim
theorem Told.app {led : List (Addr × Obj)} {T : Addr} {t u : Tok} {n : Nat × Int} (hm : (T, tupO [.int n.1 t, .int n.2 u]) ∈ led) : ∀ {vs : List Value} {ns : List (Nat × Int)}, Told led vs ns → Told led (vs ++ [.ref T]) (ns ++ [n])
  | [], [], _ => ⟨⟨T, t, u, rfl, hm⟩, trivial⟩
  | v :: vs, n :: ns, ⟨a, r⟩ => ⟨a, r.app hm⟩
  | [], _ :: _, h => h.elim
  | _ :: _, [], h => h.elim
theorem Told.len {led : List (Addr × Obj)} : ∀ {vs : List Value} {ns : List (Nat × Int)}, Told led vs ns → vs.length = ns.length
  | [], [], _ => rfl
  | v :: vs, n :: ns, ⟨a, r⟩ => by simp [r.len]
  | [], _ :: _, h => h.elim
  | _ :: _, [], h => h.elim
theorem foldmax_ge : ∀ (l : List Nat) (a : Nat), a ≤ l.foldl max a ∧ ∀ x ∈ l, x ≤ l.foldl max a
  | [], a => ⟨Nat.le_refl _, nofun⟩
  | b :: r, a => by
    have h := foldmax_ge r (max a b)
    rw [List.foldl_cons]
    refine ⟨by omega, fun x hx => ?_⟩
    rcases List.mem_cons.mp hx with rfl | hx
    · omega
    · exact h.2 x hx
theorem foldmax_mem : ∀ (l : List Nat) (a : Nat), l.foldl max a = a ∨ l.foldl max a ∈ l
  | [], a => .inl rfl
  | b :: r, a => by
    rw [List.foldl_cons]
    rcases foldmax_mem r (max a b) with h | h
    · rw [h]
      by_cases q : a ≤ b
      · rw [Nat.max_eq_right q]; exact .inr (.head _)
      · rw [Nat.max_eq_left (by omega)]; exact .inl rfl
    · exact .inr (.tail _ h)

theorem c_apart {x y : Str} {t u : Tok} {Q : Value → Shared → Prop} (G : Gnd w h₀) (S : St h₀ os L vs l led s) (O : AOk A 5 60) (hx : x.length ≤ 100000) (hy : y.length ≤ 100000)
    (h : ∀ D xs k cells s', Told cells xs (apart x y) → (D, lsO xs k) ∈ cells → St h₀ os L vs l (cells ++ led) s' → Q (.ref D) s') :
    wpAny (model pw w) A (call (.ref 231) [.str x t, .str y u]) Q E s := by
  refine call_ap G S (by have := O.dp; omega) ?_
  clear S
  intro L' oL o1 o2 s₁ d1 d2 S0
  have V0 := ap_top w.params L'
  have O := O.deeper (env := apEnv w.params L')
  have hkf : (apEnv w.params L').scope.kind = .function := by kernel_rfl
  refine seqI ?_
  with_reducible refine wpAny_Assign_Name ?_ (by with_unfolding_all rfl)
  with_reducible refine wpAny_BinOp ?_
  refine wpAny_Constant_int ?_
  have S := S0 (s₁.toks + 1) (Nat.succ_pos _)
  clear S0
  generalize ({ s₁ with toks := s₁.toks + 1 } : Shared) = s at S ⊢
  repeat tb_start
  refine compFrom (cl := []) (by with_unfolding_all rfl) (by rfl) (by decide +kernel) (by intro _; rfl) ?_
  repeat tb_start
  refine nmCell S (.head _) d1 hkf (ap_k1 _ _) (ap_c1 _ _) (by decide +kernel) ?_
  repeat tb_start
  refine splitC S (by decide +kernel) (Nat.le_trans (by omega) (show 8000000 ≤ sizeLine by decide +kernel)) ?_
  clear S; intro D1 p1 s hp1 S
  repeat tb_start
  refine nmCell S (.tail _ (.tail _ (.head _))) d2 hkf (ap_k2 _ _) (ap_c2 _ _) (by decide +kernel) ?_
  repeat tb_start
  refine splitC S (by decide +kernel) (Nat.le_trans (by omega) (show 8000000 ≤ sizeLine by decide +kernel)) ?_
  clear S; intro D2 p2 s hp2 S
  have w1 := split_weight x (Str.ofString "\t") (by decide +kernel)
  have w2 := split_weight y (Str.ofString "\t") (by decide +kernel)
  rw [← hp1] at w1
  rw [← hp2] at w2
  rw [List.length_map] at w1 w2
  refine addL S (isL (S.N (D1, lstO (strValues p1)) (.tail _ (.head _))).1) (isL (S.N (D2, lstO (strValues p2)) (.head _)).1) (Nat.le_trans (by simp [strValues]; omega) (show 8000000 ≤ sizeLine by decide +kernel)) ?_
  clear S; intro D3 s S
  have hsv : strValues p1 ++ strValues p2 = strValues (p1 ++ p2) := by simp [strValues]
  rw [hsv] at S
  have hpp : (p1 ++ p2).map (·.1) = runsOf x y := by rw [List.map_append, hp1, hp2]; rfl
  have hpl : (p1 ++ p2).length ≤ 200002 := by rw [List.length_append]; omega
  have hpe : ∀ p ∈ p1 ++ p2, p.1.length ≤ 100001 := by
    intro p hp
    rcases List.mem_append.mp hp with hp | hp
    · have := le_sum_mem (x := p.1.length) (l := (p1.map (·.1)).map (·.length)) (List.mem_map.mpr ⟨p.1, List.mem_map.mpr ⟨p, hp, rfl⟩, rfl⟩); omega
    · have := le_sum_mem (x := p.1.length) (l := (p2.map (·.1)).map (·.length)) (List.mem_map.mpr ⟨p.1, List.mem_map.mpr ⟨p, hp, rfl⟩, rfl⟩); omega
  generalize p1 ++ p2 = pz at S hpp hpl hpe
  refine compL (led₀ := []) (a := D3) (xs := strValues pz) (kx := 0) (fun i ys led' => led' = [] ∧ IntsAre ys ((pz.take i).map fun p => (p.1.length : Int))) O.hd (by decide +kernel) (by rfl) S (.head _) ⟨rfl, .nil⟩ (by simp [strValues]; omega) (fun i ys led' hJ => by have := hJ.2.length; simp at this; omega) ?_ ?_
  · rintro i v led' ys k C D oC m I oI s E' hv ⟨rfl, hys⟩ hoC S
    obtain ⟨p, hp, rfl⟩ : ∃ p, pz[i]? = some p ∧ v = .str p.1 p.2 := by
      simp only [strValues, List.getElem?_map, Option.map_eq_some_iff] at hv
      obtain ⟨p, hp, rfl⟩ := hv
      exact ⟨p, hp, rfl⟩
    repeat tb_start
    refine stC S rfl hoC (by with_unfolding_all rfl) (by with_unfolding_all rfl) ?_
    clear S; intro oC' s hoC' S
    refine testsNil ?_
    rw [if_pos rfl]
    repeat tb_start
    refine nmC S (.head _) rfl hoC' (by with_unfolding_all rfl) (by with_unfolding_all rfl) (v := .str p.1 p.2) (by simp) (by decide +kernel) ?_
    refine lenS S (Nat.le_trans (by have := hpe p (List.mem_of_getElem? hp); omega) (show 8000000 ≤ sizeLine by decide +kernel)) ?_
    clear S; intro t s S
    refine ⟨[], _, _, hoC', ⟨rfl, ?_⟩, S⟩
    rw [List.take_add_one, hp, List.map_append]
    exact hys.append (.cons _ _ .nil)
  · rintro D ys k led' s ⟨rfl, hys⟩ S
    have hlp : (strValues pz).length = pz.length := by simp [strValues]
    rw [hlp, List.take_length] at hys
    have hne : 0 < (pz.map fun p => (p.1.length : Int)).length := by
      have : runsOf x y ≠ [] := by unfold runsOf; intro q; exact split_ne_nil _ _ (List.append_eq_nil_iff.mp q).1
      rw [← hpp] at this
      rw [List.length_map]
      exact List.length_pos_iff.mpr (fun q => this (by rw [q]; rfl))
    refine maxL O.hd S (.head _) hys hne ?_
    clear S; intro M t s hM hMx S
    have hMt : (1 : Int) + M = (apTop x y : Nat) := by
      have hmap : (runsOf x y).map (·.length) = pz.map fun p => p.1.length := by rw [← hpp, List.map_map]; rfl
      unfold apTop
      rw [hmap]
      obtain ⟨p, hp, rfl⟩ := List.mem_map.mp hM
      have h1 := (foldmax_ge (pz.map fun p => p.1.length) 0).2 p.1.length (List.mem_map.mpr ⟨p, hp, rfl⟩)
      rcases foldmax_mem (pz.map fun p => p.1.length) 0 with q | q
      · rw [q] at h1 ⊢; omega
      · obtain ⟨p', hp', e'⟩ := List.mem_map.mp q
        have h2 := hMx (p'.1.length : Int) (List.mem_map.mpr ⟨p', hp', rfl⟩)
        omega
    have hTop : apTop x y ≤ 100002 := by
      have := hpe
      obtain ⟨p, hp, rfl⟩ := List.mem_map.mp hM
      have := hpe p hp
      omega
    repeat tb_start
    rw [hMt] at S
    refine compFrom (cl := [(Str.ofString "other", L' + 1 + 1), (Str.ofString "one", L' + 1)]) ?hcl (by rfl) (by decide +kernel) (by intro _; rfl) ?hcc
    case hcl => first | with_unfolding_all rfl | kernel_rfl
    repeat tb_start
    refine rng2 S ?_
    clear S; intro r v s hr S
    have etop : (((apTop x y : Nat) : Int) + 1 - 1).toNat = apTop x y := by omega
    refine compR (led₀ := []) (fun i ys led' => Told led' ys ((List.range i).map fun j => (j + 1, colZ ((j + 1 : Nat) : Int) x.cps.toList - colZ ((j + 1 : Nat) : Int) y.cps.toList))) O.hd (by decide +kernel) (by rfl) S hr (PySem.small_one (by decide) (by decide) (by omega) (by omega)) trivial (by omega) (fun i ys led' hJ => by have := hJ.len; simp at this; omega) ?_ ?_
    · intro i t led' ys k C D oC m I oI s E' hi hJ hoC S
      repeat tb_start
      refine stC S rfl hoC (by with_unfolding_all rfl) (by with_unfolding_all rfl) ?_
      clear S; intro oC' s hoC' S
      refine testsNil ?_
      rw [if_pos rfl]
      repeat tb_start
      refine nmC S (.head _) rfl hoC' (by with_unfolding_all rfl) (by with_unfolding_all rfl) (v := .int (1 + (i : Nat)) t) (by simp) (by decide +kernel) ?_
      repeat tb_start
      refine nmCell (c := L' + 1) (o := o1) S (by simp) d1 (by with_unfolding_all rfl) (by kernel_rfl) (by kernel_rfl) (by decide +kernel) ?_
      refine nmC S (.head _) rfl hoC' (by with_unfolding_all rfl) (by with_unfolding_all rfl) (v := .int (1 + (i : Nat)) t) (by simp) (by decide +kernel) ?_
      repeat tb_start
      refine c_column G S (O.le (by omega) (by omega)) (by omega) ?_
      clear S; intro t1 s S
      repeat tb_start
      refine nmCell (c := L' + 1 + 1) (o := o2) S (by simp) d2 (by with_unfolding_all rfl) (by kernel_rfl) (by kernel_rfl) (by decide +kernel) ?_
      refine nmC S (.head _) rfl hoC' (by with_unfolding_all rfl) (by with_unfolding_all rfl) (v := .int (1 + (i : Nat)) t) (by simp) (by decide +kernel) ?_
      repeat tb_start
      refine c_column G S (O.le (by omega) (by omega)) (by omega) ?_
      clear S; intro t2 s S
      refine subI S ?_
      clear S; intro t3 s S
      refine newT S (show 2 ≤ sizeLine by decide +kernel) ?_
      clear S; intro Tr s S
      have ei : (1 : Int) + (i : Nat) = ((i + 1 : Nat) : Int) := by omega
      rw [ei] at S
      refine ⟨(Tr, tupO [.int ((i + 1 : Nat) : Int) t, .int (colZ ((i + 1 : Nat) : Int) x.cps.toList - colZ ((i + 1 : Nat) : Int) y.cps.toList) t3]) :: led', oC', _, hoC', ?_, S.perm ?_⟩
      · rw [List.range_succ, List.map_append]
        exact (hJ.mono fun p hp => .tail _ hp).app (n := (i + 1, colZ ((i + 1 : Nat) : Int) x.cps.toList - colZ ((i + 1 : Nat) : Int) y.cps.toList)) (.head _)
      · classical exact List.perm_iff_count.mpr fun a => by simp only [List.count_append, List.count_cons, List.nil_append]; omega
    · intro Dr xs kr cells s hJ S
      rw [etop] at hJ
      repeat tb_start
      have S := (S.perm (led' := (D, lsO ys k) :: (D3, lstO (strValues pz)) :: (D2, lstO (strValues p2)) :: (D1, lstO (strValues p1)) :: (L' + 1, o1) :: (L' + 1 + 1, o2) :: (L, oL) :: (((Dr, lsO xs kr) :: cells) ++ led)) (by
        classical exact List.perm_iff_count.mpr fun a => by simp only [List.count_append, List.count_cons, List.nil_append]; omega)).drop ((((((List.Sublist.refl _).cons _).cons _).cons _).cons _).cons _ |>.cons _)
      exact ⟨_, _, _, _, S, fun S => h Dr xs kr ((Dr, lsO xs kr) :: cells) _ (hJ.mono fun p hp => .tail _ hp) (.head _) S⟩
end
end
section
open PySem PySem.W PySem.Calls PyProof.Rows PySem.Spec PyProof.V PyProof.Rows.LCg
set_option maxRecDepth 100000
set_option maxHeartbeats 4000000
set_option linter.unusedVariables false

inductive All2 (F : Value → Nat → Prop) : List Value → List Nat → Prop
  | nil : All2 F [] []
  | cons {v n vs ns} : F v n → All2 F vs ns → All2 F (v :: vs) (n :: ns)
theorem All2.len {F : Value → Nat → Prop} : ∀ {vs : List Value} {ns : List Nat}, All2 F vs ns → vs.length = ns.length
  | _, _, .nil => rfl
  | _, _, .cons _ r => by simp [r.len]
theorem All2.app {F : Value → Nat → Prop} {v : Value} {n : Nat} (h : F v n) : ∀ {vs : List Value} {ns : List Nat}, All2 F vs ns → All2 F (vs ++ [v]) (ns ++ [n])
  | _, _, .nil => .cons h .nil
  | _, _, .cons a r => .cons a (r.app h)

section
variable {w : World} {A : Around} {E : Value → Shared → Prop} {s : Shared} {h₀ : Heap} {os : OsG} {L : Addr} {vs : List Str} {l : List (Option Value)} {led : List (Addr × Obj)} {env : Env}

theorem Told.at {led : List (Addr × Obj)} : ∀ {vs : List Value} {ns : List (Nat × Int)}, Told led vs ns → ∀ (i : Nat) (v : Value), vs[i]? = some v → ∃ T t u n, v = .ref T ∧ (T, tupO [.int (n : Nat × Int).1 t, .int n.2 u]) ∈ led ∧ ns[i]? = some n
  | [], [], _, i, v, e => by simp at e
  | a :: vs, n :: ns, ⟨⟨T, t, u, e1, e2⟩, hr⟩, i, v, e => by
    cases i with
    | zero => simp at e; subst e; exact ⟨T, t, u, n, e1, e2, rfl⟩
    | succ i => exact hr.at i v (by simpa using e)
  | [], _ :: _, h, _, _, _ => h.elim
  | _ :: _, [], h, _, _, _ => h.elim

theorem compTold {op : CmpOp} {pred : Int → Bool} {iter : Expr} {p2 p3 p4 p5 p6 p7 : Pos} {kk k : Nat} {elt : Expr} {scope : Scope} {pos : Pos} {D : Addr} {xs : List Value} {kx : Nat} {ap : List (Nat × Int)} {Q : Value → Shared → Prop} (F : Value → Nat → Prop)
    (hop : ∀ far t u s (Q : Value → Shared → Prop) (E : Value → Shared → Prop), Q (.bool (pred far)) s → wpAny (model pw w) A (compareOp op (.int far t) (.int 0 u)) Q E s)
    (hh : A.handled = none) (hclos : closureFor scope env = pure []) (hkind : scope.kind = .function) (hnames : ∀ y ∈ scope.names, y.2 = .local → scope.names.lookup y.1 = some .local) (hcell : ∀ y ∈ scope.names, y.2 ≠ .cell) (hs : ∀ x, foldedSetIterable iter env x = pure x)
    (k1 : ∀ C, (compEnvC scope [] C env).kindOf (Str.ofString "size") = some .local) (k2 : ∀ C, (compEnvC scope [] C env).kindOf (Str.ofString "far") = some .local)
    (S : St h₀ os L vs l led s) (hD : (D, lsO xs kx) ∈ led) (hT : Told led xs ap) (hlen : ap.length ≤ 200000)
    (hit : ∀ Q' : Value → Shared → Prop, (∀ s', St h₀ os L vs l led s' → Q' (.ref D) s') → wpAny (model pw w) A (eval iter env) Q' E s)
    (helt : ∀ C oC m n t s (led' : List (Addr × Obj)) (Q' : Value → Shared → Prop) (E' : Value → Shared → Prop), n ∈ ap → NsObj oC m → m (Str.ofString "size") = some (.int (n : Nat × Int).1 t) → (C, oC) ∈ led' → St h₀ os L vs l led' s →
      (∀ v s', F v n.1 → St h₀ os L vs l led' s' → Q' v s') → wpAny (model pw w) A (eval elt (compEnvC scope [] C env)) Q' E' s)
    (h : ∀ R ys kr s', (All2 F ys ((ap.filter fun n => pred n.2).map (·.1))) → St h₀ os L vs l ((R, lsO ys kr) :: led) s' → Q (.ref R) s') :
    wpAny (model pw w) A (eval (.ListComp elt [⟨.Tuple [.Name "size" p2, .Name "far" p3] kk p4, iter, [.Compare (.Name "far" p5) [op] [.Constant (.int 0) k p6] p7], 0⟩] scope pos) env) Q E s := by
  have hxl := hT.len
  refine compFrom hclos hkind hnames hs (hit _ ?_)
  clear S; intro s S
  refine compL (led₀ := []) (a := D) (xs := xs) (kx := kx) (fun i ys led' => led' = [] ∧ All2 F ys (((ap.take i).filter fun n => pred n.2).map (·.1))) hh hcell hkind S hD ⟨rfl, .nil⟩ (by omega) (fun i ys led' hJ => ?_) ?_ ?_
  · have h1 := hJ.2.len
    have h2 := List.length_filter_le (fun n : Nat × Int => pred n.2) (ap.take i)
    rw [List.length_map] at h1
    rw [List.length_take] at h2
    omega
  · rintro i v led' ys k' C Dr oC m I oI s E' hv ⟨rfl, hys⟩ hoC S
    obtain ⟨T, t, u, n, rfl, hTm, hn⟩ := hT.at i v hv
    refine unpT hh S (.tail _ (.tail _ (List.mem_append_right _ (.tail _ hTm)))) (by rfl) (by rfl) ?_
    clear S; intro s S
    refine inOrder_cons (wpAny_assign_Name ?_)
    refine stC S rfl hoC (k1 C) (by exact hkind) ?_
    clear S; intro oC1 s hoC1 S
    refine inOrder_cons (wpAny_assign_Name ?_)
    refine stC S rfl hoC1 (k2 C) (by exact hkind) ?_
    clear S; intro oC2 s hoC2 S
    refine inOrder_nil ?_
    refine wpAny_tests_one ?_
    refine wpAny_isTrue_Compare1 (nmC S (.head _) rfl hoC2 (k2 C) (by exact hkind) (v := .int n.2 u) (by simp) (by decide +kernel) ?_) (by with_unfolding_all rfl)
    refine cInt S ?_
    clear S; intro t0 s S
    refine hop n.2 u t0 s _ _ ?_
    refine wpAny_truthy_bool ?_
    have htk : ap.take (i + 1) = ap.take i ++ [n] := by rw [List.take_add_one, hn]; rfl
    cases hp : pred n.2 with
    | true =>
      rw [if_pos rfl]
      refine helt C oC2 _ n t s _ _ _ (List.mem_of_getElem? hn) hoC2 ?_ (.head _) S ?_
      · rw [if_neg (by decide +kernel), if_pos rfl]
      · intro v s' hF S'
        refine ⟨[], oC2, _, hoC2, ⟨rfl, ?_⟩, S'⟩
        rw [htk, List.filter_append, List.map_append]
        have : [n].filter (fun n : Nat × Int => pred n.2) = [n] := by simp [hp]
        rw [this]
        exact hys.app hF
    | false =>
      rw [if_neg (by decide)]
      refine ⟨[], oC2, _, hoC2, ⟨rfl, ?_⟩, S⟩
      rw [htk, List.filter_append, List.map_append]
      have : [n].filter (fun n : Nat × Int => pred n.2) = [] := by simp [hp]
      rw [this]
      simpa using hys
  · rintro R ys kr led' s ⟨rfl, hys⟩ S
    rw [hxl, List.take_length] at hys
    exact h R ys kr s hys S
end
end
section
open PySem PySem.W PySem.Calls PyProof.Rows PySem.Spec PyProof.V PyProof.Rows.LCg
set_option maxRecDepth 100000
set_option maxHeartbeats 4000000
set_option linter.unusedVariables false

/-! ### a comprehension that is bound to a name within its own frame -/
section
variable {w : World} {A : Around} {E : Value → Shared → Prop} {s : Shared} {h₀ : Heap} {os : OsG} {L : Addr} {vs : List Str} {l : List (Option Value)} {led : List (Addr × Obj)} {env : Env}

theorem compStartU {use : Option (Value → Sem Unit)} {elt target iter : Expr} {ifs : List Expr} {scope : Scope} {cl : List (Str × Addr)} {pos : Pos} {I : Addr} {oI : Obj} {fp : List Addr} {n : Nat} {P : Nat → Value → Prop} {Sti : Nat → Heap → Prop} {Q : Value → Shared → Prop} {led₀ : List (Addr × Obj)}
    (J : Nat → List Value → List (Addr × Obj) → Prop)
    (hcell : ∀ y ∈ scope.names, y.2 ≠ .cell) (hkind : scope.kind = .function)
    (W : Walks pw w A I fp [I] n P Sti) (hfp : ∀ b ∈ fp, b ≠ I → (∃ o, h₀.get? b = some o) ∨ ∃ o, (b, o) ∈ led) (hfs : ∀ b ∈ fp, b < s.heap.objs.size)
    (hI : ∀ i h, Sti i h → ∃ o, h.get? I = some o) (hst : Sti 0 s.heap) (S : St h₀ os L vs l (led₀ ++ (I, oI) :: led) s) (hJ : J 0 [] led₀) (hn : n ≤ 8000000) (hJs : ∀ i ys led', J i ys led' → ys.length ≤ i)
    (turn : ∀ i v led' ys k C D oC m oI s (E' : Value → Shared → Prop), i < n → P i v → J i ys led' → NsObj oC m → St h₀ os L vs l ((C, oC) :: (D, lsO ys k) :: (led' ++ (I, oI) :: led)) s →
      wpAny (model pw w) A (assign target (compEnvC scope cl C env) v) (fun _ s₂ => TestsW w A ifs (compEnvC scope cl C env) (fun ok s₃ =>
        if ok = true then wpAny (model pw w) A (eval elt (compEnvC scope cl C env)) (fun x s₄ => ∃ led'' oC' m', NsObj oC' m' ∧ J (i + 1) (ys ++ [x]) led'' ∧ St h₀ os L vs l ((C, oC') :: (D, lsO ys k) :: (led'' ++ (I, oI) :: led)) s₄) E' s₃
        else ∃ led'' oC' m', NsObj oC' m' ∧ J (i + 1) ys led'' ∧ St h₀ os L vs l ((C, oC') :: (D, lsO ys k) :: (led'' ++ (I, oI) :: led)) s₃) E' s₂) E' s)
    (done : ∀ C oC m D ys k led' s, J n ys led' → NsObj oC m → St h₀ os L vs l ((C, oC) :: (D, lsO ys k) :: (led' ++ led)) s → compPost (model pw w) A E use Q (.ref D) C (.ok .next) s)
    (hlet : ∀ i v s' (Q : Unit → Shared → Prop) (E : Value → Shared → Prop), Sti i s'.heap → Q () s' → wpAny (model pw w) A (letOwnedTupleGo target (.ref I) v) Q E s') :
    wpAny (model pw w) A (newList []) (fun acc s₃ => wpAny (model pw w) A (newFunctionEnv scope env.globals cl [] env.qual none .none (some env)) (fun cenv s₄ =>
      codeAny (model pw w) A (.compStart (.ListComp elt [⟨target, iter, ifs, 0⟩] scope pos) 0 (.ref I) acc { cenv with scope := relabel scope env }) (compPost (model pw w) A E use Q acc cenv.locals) s₄) E s₃) E s := by
  have hIx : ∃ o, s.heap.get? I = some o := hI 0 _ hst
  refine wpAny_newObj_type (wpAny_newFunctionEnv hcell (by intro y hy; simp at hy) (fun h₁ hns₁ hsb₁ => ?_) hkind)
  have S1 := S.push (tk := s.toks) (lstO []) (Nat.le_refl _)
  dsimp only at hns₁ hsb₁ ⊢
  generalize hH2 : s.heap.push { cls := .type "list", dict := none, data := .seq ([] : List Value).toArray } = H2 at hns₁ hsb₁ ⊢
  have S1 : St h₀ os L vs l ((s.heap.objs.size, lsO [] 0) :: (led₀ ++ (I, oI) :: led)) { s with heap := H2 } := by rw [← hH2]; exact S1
  have keep2 : ∀ b o, H2.get? b = some o → h₁.get? b = some o := fun b o e => hsb₁.extBut b o (Nat.ne_of_lt (Heap.lt_size e)) (Heap.get?_push_of_some _ e)
  obtain ⟨oC, hgC, hoC⟩ := ns_obj hns₁
  have S2 := S1.made (tk := s.toks) keep2 hgC (Nat.le_refl _) (Nat.le_refl _)
  have keep1 : ∀ b o, s.heap.get? b = some o → h₁.get? b = some o := fun b o e => keep2 b o (by rw [← hH2]; exact Heap.get?_push_of_some _ e)
  have hst1 : Sti 0 h₁ := W.frame _ _ _ hst fun b _ o e => keep1 b o e
  have loop : ∀ s₃ : Shared, s₃ = { s with heap := h₁, toks := s.toks + ([] : List (Str × Value)).length } →
      codeAny (model pw w) A (.compLoop (.ListComp elt [⟨target, iter, ifs, 0⟩] scope pos) 0 (.ref I) (.ref s.heap.objs.size) (compEnvC scope cl H2.objs.size env)) (compPost (model pw w) A E use Q (.ref s.heap.objs.size) H2.objs.size) s₃ := by
    rintro s₃ rfl
    refine compJ J W hfp hI hst1 hoC S2 hJ hn hJs (fun i v led' ys k oC m oI s hi hP hJ' ho S' => turn i v led' ys k _ _ oC m oI s _ hi hP hJ' ho S') (fun ys k led' oC m s' hJ' ho S' => done _ oC m _ ys k led' s' hJ' ho S') hlet
  exact codeAny_compStart_list (loop _ rfl) (W.self 0 _ _ _ hst1 (loop _ rfl))


def CompKU (use : Option (Value → Sem Unit)) (w : World) (A : Around) (elt target iter : Expr) (ifs : List Expr) (scope : Scope) (cl : List (Str × Addr)) (pos : Pos) (env : Env) (Q : Value → Shared → Prop) (E : Value → Shared → Prop) (it : Value) (s : Shared) : Prop :=
  wpAny (model pw w) A (newList []) (fun acc s₃ => wpAny (model pw w) A (newFunctionEnv scope env.globals cl [] env.qual none .none (some env)) (fun cenv s₄ =>
      codeAny (model pw w) A (.compStart (.ListComp elt [⟨target, iter, ifs, 0⟩] scope pos) 0 it acc { cenv with scope := relabel scope env }) (compPost (model pw w) A E use Q acc cenv.locals) s₄) E s₃) E s
theorem compFromU {elt target iter : Expr} {ifs : List Expr} {scope : Scope} {cl : List (Str × Addr)} {pos spos py : Pos} {y : Str} {Q : Flow → Shared → Prop} (hsw : swapsWith (.ListComp elt [⟨target, iter, ifs, 0⟩] scope pos) (some (.Name y py)) spos.line env = pure true)
    (hclos : closureFor scope env = pure cl) (hkind : scope.kind = .function)
    (hnames : ∀ y ∈ scope.names, y.2 = .local → scope.names.lookup y.1 = some .local) (hs : ∀ x, foldedSetIterable iter env x = pure x)
    (h : wpAny (model pw w) A (eval iter env) (fun xv s₁ => wpAny (model pw w) A (pyIter xv) (CompKU (some (assign (.Name y py) env)) w A elt target iter ifs scope cl pos env (fun _ s' => Q .next s') E) E s₁) E s) :
    wpAny (model pw w) A (exec (.Assign [.Name y py] (.ListComp elt [⟨target, iter, ifs, 0⟩] scope pos) spos) env) Q E s := by
  rw [exec_Assign_Name_used _ _ _ _ hsw]
  refine wpAny_bind (wpAny_standAt (wpAny_bind ?_))
  show wpAny _ A (do let _ ← comprehension (.ListComp elt [⟨target, iter, ifs, 0⟩] scope pos) scope env _ (newList []) false (eval iter env) (some (assign (.Name y py) env))) _ _ s
  exact wpAny_bind (wpAny_mono (wpAny_comprehension_free (use := some (assign (.Name y py) env)) (Q := fun _ s' => Q .next s') rfl hs hclos hkind hnames h) (fun _ s' hq => wpAny_pure (wpAny_pure hq)) fun _ _ e => e)
theorem endUse {y : Str} {py : Pos} {yi : Nat} {C : Addr} {oC : Obj} {m : Str → Option Value} {v : Value} {Q : Value → Shared → Prop} (ho : NsObj oC m) (V : Slot env L vs y yi) (hyi : yi < l.length) (S : St h₀ os L vs l ((C, oC) :: led) s)
    (h : ∀ s', St h₀ os L vs (l.set yi (some v)) led s' → Q .none s') : compPost (model pw w) A E (some (assign (.Name y py) env)) Q v C (.ok .next) s := by
  show wpAny _ A (assign (.Name y py) env v) _ E s
  refine wpAny_assign_Name (stL S V hyi fun s' S' => ?_)
  have cC := S'.N _ (.head _)
  refine ⟨m, ho.ns cC.1, fun h'' hs'' => h _ ?_⟩
  have nd := S'.nd
  rw [List.map_cons, List.nodup_cons] at nd
  refine ⟨⟨?_, fun b x e => (hs''.2 b (fun q => ?_)).trans (S'.F.keep b x e), S'.F.above⟩, fun p hp => ?_, nd.2, S'.gens, S'.os, S'.tok⟩
  · obtain ⟨oL, es, ep, hL, r⟩ := S'.F.ns
    exact ⟨oL, es, ep, (hs''.2 L (Ne.symm cC.2.1)).trans hL, r⟩
  · have := cC.2.2; rw [← q, e] at this; cases this
  · have Pp := S'.N p (.tail _ hp)
    exact ⟨(hs''.2 p.1 fun q => nd.1 (q ▸ List.mem_map.mpr ⟨p, hp, rfl⟩)).trans Pp.1, Pp.2⟩
theorem compLU {use : Option (Value → Sem Unit)} {elt target iter : Expr} {ifs : List Expr} {scope : Scope} {cl : List (Str × Addr)} {pos : Pos} {a : Addr} {xs : List Value} {kx : Nat} {Q : Value → Shared → Prop} {led₀ : List (Addr × Obj)} (J : Nat → List Value → List (Addr × Obj) → Prop) (hh : A.handled = none)
    (hcell : ∀ y ∈ scope.names, y.2 ≠ .cell) (hkind : scope.kind = .function) (S : St h₀ os L vs l (led₀ ++ led) s) (hm : (a, lsO xs kx) ∈ led) (hJ : J 0 [] led₀) (hn : xs.length ≤ 8000000) (hJs : ∀ i ys led', J i ys led' → ys.length ≤ i)
    (turn : ∀ i v led' ys k C D oC m I oI s (E' : Value → Shared → Prop), xs[i]? = some v → J i ys led' → NsObj oC m → St h₀ os L vs l ((C, oC) :: (D, lsO ys k) :: (led' ++ (I, oI) :: led)) s →
      wpAny (model pw w) A (assign target (compEnvC scope cl C env) v) (fun _ s₂ => TestsW w A ifs (compEnvC scope cl C env) (fun ok s₃ =>
        if ok = true then wpAny (model pw w) A (eval elt (compEnvC scope cl C env)) (fun x s₄ => ∃ led'' oC' m', NsObj oC' m' ∧ J (i + 1) (ys ++ [x]) led'' ∧ St h₀ os L vs l ((C, oC') :: (D, lsO ys k) :: (led'' ++ (I, oI) :: led)) s₄) E' s₃
        else ∃ led'' oC' m', NsObj oC' m' ∧ J (i + 1) ys led'' ∧ St h₀ os L vs l ((C, oC') :: (D, lsO ys k) :: (led'' ++ (I, oI) :: led)) s₃) E' s₂) E' s)
    (done : ∀ C oC m D ys k led' s, J xs.length ys led' → NsObj oC m → St h₀ os L vs l ((C, oC) :: (D, lsO ys k) :: (led' ++ led)) s → compPost (model pw w) A E use Q (.ref D) C (.ok .next) s) :
    wpAny (model pw w) A (pyIter (.ref a)) (CompKU use w A elt target iter ifs scope cl pos env Q E) E s := by
  have hl : s.heap.IsList a xs.toArray := isL (S.N (a, lsO xs kx) (List.mem_append_right _ hm)).1
  refine wpAny_pyIter_list hl ?_
  have hlt : a < s.heap.objs.size := S.lt (List.mem_append_right _ hm)
  have S' := (S.push (tk := s.toks) (iterO a) (Nat.le_refl _)).perm (perm_mid led₀ led _).symm
  refine compStartU J hcell hkind (Walks.list hh s.heap.objs.size a (Nat.ne_of_lt hlt) xs.toArray) (fun b hb hn => ?_) (fun b hb => ?_) (fun i h x => let ⟨o, ho, _⟩ := x.1; ⟨o, ho⟩) ⟨⟨_, Heap.get?_push_size _ rfl, rfl, rfl⟩, hl.at fun o e => Heap.get?_push_of_some _ e⟩ S' hJ (by simpa using hn) hJs
    (fun i v led' ys k C D oC m oI s E' hi hP hJ' ho S'' => turn i v led' ys k C D oC m _ oI s E' (by simpa using hP) hJ' ho S'') (fun C oC m D ys k led' s hJ' ho S'' => done C oC m D ys k led' s (by simpa using hJ') ho S'') (fun i v s' Q E hs hq => letList hs.1 hq)
  · simp only [List.mem_cons, List.not_mem_nil, or_false] at hb
    rcases hb with rfl | rfl
    · exact absurd rfl hn
    · exact .inr ⟨_, hm⟩
  · show b < (s.heap.push _).objs.size
    rw [Heap.size_push]
    simp only [List.mem_cons, List.not_mem_nil, or_false] at hb
    rcases hb with rfl | rfl
    · exact Nat.lt_succ_self _
    · exact Nat.lt_succ_of_lt hlt
theorem compToldU {y : Str} {py spos : Pos} {yi : Nat} {op : CmpOp} {pred : Int → Bool} {iter : Expr} {p2 p3 p4 p5 p6 p7 : Pos} {kk k : Nat} {elt : Expr} {scope : Scope} {pos : Pos} {D : Addr} {xs : List Value} {kx : Nat} {ap : List (Nat × Int)} {Q : Flow → Shared → Prop} (F : Value → Nat → Prop) (V : Slot env L vs y yi) (hyi : yi < l.length)
    (hsw : swapsWith (.ListComp elt [⟨.Tuple [.Name "size" p2, .Name "far" p3] kk p4, iter, [.Compare (.Name "far" p5) [op] [.Constant (.int 0) k p6] p7], 0⟩] scope pos) (some (.Name y py)) spos.line env = pure true)
    (hop : ∀ far t u s (Q : Value → Shared → Prop) (E : Value → Shared → Prop), Q (.bool (pred far)) s → wpAny (model pw w) A (compareOp op (.int far t) (.int 0 u)) Q E s)
    (hh : A.handled = none) (hclos : closureFor scope env = pure []) (hkind : scope.kind = .function) (hnames : ∀ y ∈ scope.names, y.2 = .local → scope.names.lookup y.1 = some .local) (hcell : ∀ y ∈ scope.names, y.2 ≠ .cell) (hs : ∀ x, foldedSetIterable iter env x = pure x)
    (k1 : ∀ C, (compEnvC scope [] C env).kindOf (Str.ofString "size") = some .local) (k2 : ∀ C, (compEnvC scope [] C env).kindOf (Str.ofString "far") = some .local)
    (S : St h₀ os L vs l led s) (hD : (D, lsO xs kx) ∈ led) (hT : Told led xs ap) (hlen : ap.length ≤ 200000)
    (hit : ∀ Q' : Value → Shared → Prop, (∀ s', St h₀ os L vs l led s' → Q' (.ref D) s') → wpAny (model pw w) A (eval iter env) Q' E s)
    (helt : ∀ C oC m n t s (led' : List (Addr × Obj)) (Q' : Value → Shared → Prop) (E' : Value → Shared → Prop), n ∈ ap → NsObj oC m → m (Str.ofString "size") = some (.int (n : Nat × Int).1 t) → (C, oC) ∈ led' → St h₀ os L vs l led' s →
      (∀ v s', F v n.1 → St h₀ os L vs l led' s' → Q' v s') → wpAny (model pw w) A (eval elt (compEnvC scope [] C env)) Q' E' s)
    (h : ∀ R ys kr s', (All2 F ys ((ap.filter fun n => pred n.2).map (·.1))) → St h₀ os L vs (l.set yi (some (.ref R))) ((R, lsO ys kr) :: led) s' → Q .next s') :
    wpAny (model pw w) A (exec (.Assign [.Name y py] (.ListComp elt [⟨.Tuple [.Name "size" p2, .Name "far" p3] kk p4, iter, [.Compare (.Name "far" p5) [op] [.Constant (.int 0) k p6] p7], 0⟩] scope pos) spos) env) Q E s := by
  have hxl := hT.len
  refine compFromU hsw hclos hkind hnames hs (hit _ ?_)
  clear S; intro s S
  refine compLU (led₀ := []) (a := D) (xs := xs) (kx := kx) (fun i ys led' => led' = [] ∧ All2 F ys (((ap.take i).filter fun n => pred n.2).map (·.1))) hh hcell hkind S hD ⟨rfl, .nil⟩ (by omega) (fun i ys led' hJ => ?_) ?_ ?_
  · have h1 := hJ.2.len
    have h2 := List.length_filter_le (fun n : Nat × Int => pred n.2) (ap.take i)
    rw [List.length_map] at h1
    rw [List.length_take] at h2
    omega
  · rintro i v led' ys k' C Dr oC m I oI s E' hv ⟨rfl, hys⟩ hoC S
    obtain ⟨T, t, u, n, rfl, hTm, hn⟩ := hT.at i v hv
    refine unpT hh S (.tail _ (.tail _ (List.mem_append_right _ (.tail _ hTm)))) (by rfl) (by rfl) ?_
    clear S; intro s S
    refine inOrder_cons (wpAny_assign_Name ?_)
    refine stC S rfl hoC (k1 C) (by exact hkind) ?_
    clear S; intro oC1 s hoC1 S
    refine inOrder_cons (wpAny_assign_Name ?_)
    refine stC S rfl hoC1 (k2 C) (by exact hkind) ?_
    clear S; intro oC2 s hoC2 S
    refine inOrder_nil ?_
    refine wpAny_tests_one ?_
    refine wpAny_isTrue_Compare1 (nmC S (.head _) rfl hoC2 (k2 C) (by exact hkind) (v := .int n.2 u) (by simp) (by decide +kernel) ?_) (by with_unfolding_all rfl)
    refine cInt S ?_
    clear S; intro t0 s S
    refine hop n.2 u t0 s _ _ ?_
    refine wpAny_truthy_bool ?_
    have htk : ap.take (i + 1) = ap.take i ++ [n] := by rw [List.take_add_one, hn]; rfl
    cases hp : pred n.2 with
    | true =>
      rw [if_pos rfl]
      refine helt C oC2 _ n t s _ _ _ (List.mem_of_getElem? hn) hoC2 ?_ (.head _) S ?_
      · rw [if_neg (by decide +kernel), if_pos rfl]
      · intro v s' hF S'
        refine ⟨[], oC2, _, hoC2, ⟨rfl, ?_⟩, S'⟩
        rw [htk, List.filter_append, List.map_append]
        have : [n].filter (fun n : Nat × Int => pred n.2) = [n] := by simp [hp]
        rw [this]
        exact hys.app hF
    | false =>
      rw [if_neg (by decide)]
      refine ⟨[], oC2, _, hoC2, ⟨rfl, ?_⟩, S⟩
      rw [htk, List.filter_append, List.map_append]
      have : [n].filter (fun n : Nat × Int => pred n.2) = [] := by simp [hp]
      rw [this]
      simpa using hys
  · rintro C oC m R ys kr led' s ⟨rfl, hys⟩ ho S
    rw [hxl, List.take_length] at hys
    exact endUse ho V hyi S fun s' S' => h R ys kr s' hys S'
end
end
section
open PySem PySem.W PySem.Calls PyProof.Rows PySem.Spec PyProof.V PyProof.Rows.LCg
set_option maxRecDepth 100000
set_option maxHeartbeats 4000000
set_option linter.unusedVariables false

/-! ### the outline by columns -/
def leadLen : List Nat → Nat
  | c :: r => if c = 32 ∨ c = 9 then leadLen r + 1 else 0
  | [] => 0
def leadS (x : Str) : Str := Txt.slice x none (some (leadLen x.cps.toList : Nat))
def tailS (x : Str) : Str := Txt.slice x (some (leadLen x.cps.toList : Nat)) none
def allLess (x y : Str) : Bool := ((apart x y).filter fun n => decide (0 ≤ n.2)).isEmpty
def allMore (x y : Str) : Bool := ((apart x y).filter fun n => decide (n.2 ≤ 0)).isEmpty
def unev (x y : Str) : List Nat := ((apart x y).filter fun n => decide (n.2 ≠ 0)).map (·.1)
def popS (y : Str) : List Str → List Str
  | t :: r => if allMore t y then popS y r else t :: r
  | [] => []
def uneS (ns : List Nat) : Str := Str.ofString "indent not equal e.g. at tab size" ++ (if ns.length > 1 then Str.ofString "s " else Str.ofString " ") ++ Txt.join (Str.ofString ", ") (ns.map numS)
def duGo : List Str → Nat → List Str → List Dat
  | [], _, _ => []
  | x :: r, k, st =>
    if allLess (st.headD "") (leadS x) then rowD st.length (tailS x) :: duGo r (k + 1) (leadS x :: st)
    else if unev ((popS (leadS x) st).headD "") (leadS x) = [] then rowD ((popS (leadS x) st).length - 1) (tailS x) :: duGo r (k + 1) (popS (leadS x) st)
    else [.tuple [.int ((k : Int) + 1), .str (uneS (unev ((popS (leadS x) st).headD "") (leadS x))), .str x]]
def dueD (x : Str) : List Dat := duGo (linesOf x) 0 [""]

theorem leadLen_le : ∀ l : List Nat, leadLen l ≤ l.length
  | [] => Nat.le_refl _
  | c :: r => by
    unfold leadLen
    have := leadLen_le r
    split <;> simp <;> omega
theorem leadLen_drop : ∀ (l : List Nat) (i : Nat), i ≤ leadLen l → leadLen (l.drop i) = leadLen l - i
  | l, 0, _ => by simp
  | [], i + 1, h => by simp [leadLen] at h
  | c :: r, i + 1, h => by
    unfold leadLen at h ⊢
    split at h
    · rename_i hc
      rw [List.drop_succ_cons]
      have e := leadLen_drop r i (by omega)
      have : leadLen (List.drop i r) = leadLen r - i := e
      cases q : List.drop i r with
      | nil => rw [q] at this; simp only [leadLen] at this ⊢; rw [if_pos hc]; omega
      | cons a b => rw [q] at this; simp only [leadLen] at this ⊢; rw [if_pos hc]; omega
    · omega
theorem leadLen_at {l : List Nat} {j c : Nat} (hj : j ≤ leadLen l) (hc : l[j]? = some c) : (c = 32 ∨ c = 9) ↔ j < leadLen l := by
  have hlt : j < l.length := (List.getElem?_eq_some_iff.mp hc).1
  have e := leadLen_drop l j hj
  rw [List.drop_eq_getElem_cons hlt] at e
  have ec : l[j] = c := (List.getElem?_eq_some_iff.mp hc).2
  rw [ec] at e
  have e2 : leadLen (c :: l.drop (j + 1)) = if c = 32 ∨ c = 9 then leadLen (l.drop (j + 1)) + 1 else 0 := rfl
  rw [e2] at e
  split at e
  · rename_i h; exact ⟨fun _ => by omega, fun _ => h⟩
  · rename_i h; exact ⟨fun q => absurd q h, fun q => by omega⟩
theorem colZ_nonneg (n : Int) (hn : 1 ≤ n) : ∀ (l : List Nat) (c : Int), 0 ≤ c → 0 ≤ l.foldl (cadd n) c
  | [], c, h => h
  | a :: r, c, h => by
    rw [List.foldl_cons]
    refine colZ_nonneg n hn r _ ?_
    unfold cadd
    split
    · have h1 : c.fmod n < n := by rw [Int.fmod_eq_emod_of_nonneg _ (by omega)]; exact Int.emod_lt_of_pos _ (by omega)
      omega
    · omega
theorem allMore_bot (y : Str) : allMore (Str.ofString "") y = false := by
  unfold allMore
  rw [Bool.eq_false_iff]
  intro q
  have hm : (1, colZ ((1 : Nat) : Int) (Str.ofString "").cps.toList - colZ ((1 : Nat) : Int) y.cps.toList) ∈ apart (Str.ofString "") y := by
    unfold apart
    exact List.mem_map.mpr ⟨0, List.mem_range.mpr (by unfold apTop; omega), rfl⟩
  have h0 : (1, colZ ((1 : Nat) : Int) (Str.ofString "").cps.toList - colZ ((1 : Nat) : Int) y.cps.toList) ∈ (apart (Str.ofString "") y).filter fun n => decide (n.2 ≤ 0) := by
    refine List.mem_filter.mpr ⟨hm, decide_eq_true ?_⟩
    have h1 : colZ ((1 : Nat) : Int) (Str.ofString "").cps.toList = 0 := by decide +kernel
    have h2 := colZ_nonneg 1 (by decide) y.cps.toList 0 (by decide)
    show _ - _ ≤ (0 : Int)
    rw [h1]
    unfold colZ
    have e : ((1 : Nat) : Int) = 1 := rfl
    rw [e]
    omega
  rw [List.isEmpty_iff.mp q] at h0
  cases h0

def TopsS : List Value → List Str → Prop
  | vs, [] => vs = []
  | vs, d :: st => ∃ vs' t, vs = vs' ++ [.str d t] ∧ TopsS vs' st
theorem TopsS.len : ∀ {vs : List Value} {st : List Str}, TopsS vs st → vs.length = st.length
  | _, [], h => by rw [show _ = [] from h]; rfl
  | _, d :: st, ⟨vs', a, e, r⟩ => by rw [e, List.length_append, r.len]; rfl

theorem popS_mem {y z : Str} : ∀ {st : List Str}, z ∈ popS y st → z ∈ st
  | [], h => h
  | t :: r, h => by
    unfold popS at h
    split at h
    · exact .tail _ (popS_mem h)
    · exact h
theorem popS_last {y : Str} : ∀ {st : List Str}, popS y st ≠ [] → (popS y st).getLast? = st.getLast?
  | [], h => absurd rfl h
  | t :: r, h => by
    unfold popS at h ⊢
    split
    · rename_i q
      rw [if_pos q] at h
      rw [popS_last h]
      cases r with
      | nil => exact absurd rfl h
      | cons a b => simp
    · rfl
theorem apart_len (x y : Str) (hx : x.length ≤ 100000) (hy : y.length ≤ 100000) : (apart x y).length ≤ 200000 := by
  unfold apart apTop
  rw [List.length_map, List.length_range]
  have key : ∀ r ∈ (runsOf x y).map (·.length), r ≤ 100001 := by
    intro r hr
    have w1 := split_weight x (Str.ofString "\t") (by decide +kernel)
    have w2 := split_weight y (Str.ofString "\t") (by decide +kernel)
    unfold runsOf at hr
    rw [List.map_append] at hr
    rcases List.mem_append.mp hr with hr | hr
    · have := le_sum_mem hr; omega
    · have := le_sum_mem hr; omega
  rcases foldmax_mem ((runsOf x y).map (·.length)) 0 with q | q
  · rw [q]; omega
  · have := key _ q; omega

theorem apart_bd (x y : Str) (hx : x.length ≤ 100000) (hy : y.length ≤ 100000) : (apart x y).length ≤ 100001 ∧ ∀ n ∈ apart x y, n.1 ≤ 100001 := by
  have top : apTop x y ≤ 100001 := by
    unfold apTop
    have key : ∀ r ∈ (runsOf x y).map (·.length), r ≤ 100000 := by
      intro r hr
      have w1 := split_weight x (Str.ofString "\t") (by decide +kernel)
      have w2 := split_weight y (Str.ofString "\t") (by decide +kernel)
      unfold runsOf at hr
      rw [List.map_append] at hr
      have pos : ∀ {l : List Str}, r ∈ l.map (·.length) → 1 ≤ l.length := by
        intro l h
        cases l with
        | nil => cases h
        | cons a b => simp
      rcases List.mem_append.mp hr with hr | hr
      · have h1 := le_sum_mem hr; have h2 := pos hr; omega
      · have h1 := le_sum_mem hr; have h2 := pos hr; omega
    rcases foldmax_mem ((runsOf x y).map (·.length)) 0 with q | q
    · rw [q]; omega
    · have := key _ q; omega
  unfold apart
  refine ⟨by rw [List.length_map, List.length_range]; exact top, fun n hn => ?_⟩
  obtain ⟨j, hj, rfl⟩ := List.mem_map.mp hn
  have := List.mem_range.mp hj
  show j + 1 ≤ _
  omega
theorem numS_ok (n : Nat) : PyData.strOk (numS n) = true := by
  unfold PyData.strOk numS
  show (Str.ofString (toString (n : Int))).cps.all _ = true
  rw [Str.ofString_eq_toList, List.all_toArray, List.all_map]
  refine List.all_eq_true.mpr fun c _ => decide_eq_true ?_
  rcases c.valid with h | ⟨_, h⟩
  · show c.val.toNat < _; omega
  · exact h
theorem numsOk (ns : List Nat) : kqdOk 9 (.list (ns.map fun n => Dat.str (numS n))) = true := by
  unfold kqdOk
  refine List.all_eq_true.mpr fun d hd => ?_
  obtain ⟨n, _, rfl⟩ := List.mem_map.mp hd
  unfold kqdOk
  exact numS_ok n

section
variable {w : World} {A : Around} {E : Value → Shared → Prop} {s : Shared} {h₀ : Heap} {os : OsG} {L : Addr} {vs : List Str} {l : List (Option Value)} {led : List (Addr × Obj)} {env : Env}

theorem isAndC {M : Model} {x y : Expr} {pos : Pos} {whole : Sem Value} {bx by_ : Bool} {P : Shared → Prop} {Q : Bool → Shared → Prop} (h : wpAny M A (isTrue x env (eval x env)) (fun b s₁ => b = bx ∧ P s₁) E s)
    (h2 : bx = true → ∀ s, P s → wpAny M A (isTrue y env (eval y env)) (fun b s₁ => b = by_ ∧ P s₁) E s) (k : ∀ s, P s → Q (bx && by_) s) : wpAny M A (isTrue (.BoolOp .And [x, y] pos) env whole) Q E s := by
  refine isAnd2 (wpAny_mono h (fun b s₁ h₁ => ?_) fun _ _ e => e)
  obtain ⟨rfl, hp⟩ := h₁
  cases b with
  | false => exact k _ hp
  | true => exact wpAny_mono (h2 rfl _ hp) (fun b s₂ q => by obtain ⟨rfl, hp⟩ := q; exact k _ hp) fun _ _ e => e

theorem chS {value slice : Expr} {x : Str} {t u : Tok} {j c : Nat} {Q : Value → Shared → Prop} (S : St h₀ os L vs l led s) (hc : x.cps[j]? = some c) (hfit : (j : Int) < 2 ^ 63)
    (hs : subscripted slice false (.str x t) (.int j u) = operate [.str x t, .int j u] (getItem (.str x t) (.int j u))) (h : ∀ t' s', St h₀ os L vs l led s' → Q (.str ⟨#[c]⟩ t') s') : wpAny (model pw w) A (subscriptTail value slice (.str x t) (.int j u)) Q E s := by
  have hj : j < x.length := (Array.getElem?_eq_some_iff.mp hc).1
  refine tail_any (T := "str") (typeIs_str s x t) F.slot_str_getitem.lookup (P.getItem_str (c := c) ?_ ?_ (h _ _ (S.toks (Nat.succ_pos _)))) hs
  · simp; omega
  · unfold seqIndex?
    have : ¬ ((j : Int) < 0) := by omega
    simp [this, hj, hc]
def IsI (v : Value) (n : Nat) : Prop := ∃ t, v = .int n t
theorem datI {news : List (Addr × Obj)} : ∀ {ys : List Value} {ns : List Nat}, All2 IsI ys ns → DatAll news ys (ns.map fun n : Nat => Dat.int (n : Int))
  | _, _, .nil => .nil
  | _, _, .cons ⟨t, e⟩ r => by rw [e]; exact .cons (.int _ _) (datI r)
def IsT (v : Value) (n : Nat) : Prop := ∃ t, v = .str (numS n) t
theorem datT {news : List (Addr × Obj)} : ∀ {ys : List Value} {ns : List Nat}, All2 IsT ys ns → DatAll news ys (ns.map fun n => Dat.str (numS n))
  | _, _, .nil => .nil
  | _, _, .cons ⟨t, e⟩ r => by rw [e]; exact .cons (.str _ _) (datT r)
theorem eqNil {a b : Addr} {ys : List Value} {k : Nat} {ns : List Nat} {Q : Value → Shared → Prop} (S : St h₀ os L vs l led s) (ha : (a, lsO ys k) ∈ led) (hb : (b, lstO []) ∈ led) (hy : All2 IsI ys ns) (hu : A.units + 64 < cLine)
    (h : Q (.bool ns.isEmpty) s) : wpAny (model pw w) A (compareOp .Eq (.ref a) (.ref b)) Q E s := by
  refine eqDat S (d := .list (ns.map fun n : Nat => Dat.int (n : Int))) (e := .list []) (.list ha (datI hy)) (.list hb .nil) (by simp [kqdOk]) (by simp [kqdOk]) hu ?_ h
  cases ns <;> simp
theorem strsT : ∀ {ys : List Value} {ns : List Nat}, All2 IsT ys ns → ∃ l : List (Str × Tok), strValues l = ys ∧ l.map (·.1) = ns.map numS
  | _, _, .nil => ⟨[], rfl, rfl⟩
  | _, _, .cons (n := n) ⟨t, e⟩ r => by
    obtain ⟨l, h1, h2⟩ := strsT r
    exact ⟨(numS n, t) :: l, by rw [e, ← h1]; rfl, by rw [List.map_cons, h2]; rfl⟩
theorem joinC {x : Str} {t : Tok} {D : Addr} {ys : List Value} {k : Nat} {ns : List Nat} {Q : Value → Shared → Prop} (S : St h₀ os L vs l led s) (hm : (D, lsO ys k) ∈ led) (hy : All2 IsT ys ns) (hok : JoinOk x (ns.map numS) = true)
    (h : ∀ t' s', St h₀ os L vs l led s' → Q (.str (Txt.join x (ns.map numS)) t') s') : wpAny (model pw w) A (call (.builtin "str.join") [.str x t, .ref D]) Q E s := by
  obtain ⟨q, h1, h2⟩ := strsT hy
  refine wpAny_with_toks (n := s.toks) (Nat.le_refl _) (SC.join (l := q) ?_ h2 hok fun t' k hk => h t' _ (S.toks (Nat.lt_of_lt_of_le S.tok hk)))
  rw [h1]
  exact isL (S.N _ hm).1
theorem newT' {M : Model} {xs : List Value} {Q : Value → Shared → Prop} (S : St h₀ os L vs l led s) (hsz : xs.length ≤ sizeLine) (h : ∀ D o s', o = tupO xs → St h₀ os L vs l ((D, o) :: led) s' → Q (.ref D) s') : wpAny M A (newTuple xs) Q E s :=
  newT S hsz fun D s' S' => h D _ s' rfl S'
theorem exJR {M : Model} {st : Stmt} {rest : List Stmt} {Q : Flow → Shared → Prop} (P : Shared → Prop) (h : wpAny M A (exec st env) (fun f s' => match f with | .next => P s' | f => Q f s') E s) (k : ∀ s', P s' → wpAny M A (execs rest env) Q E s') :
    wpAny M A (exec st env) (Then M A rest env Q E) E s :=
  wpAny_mono h (fun f s' x => by cases f <;> first | exact k _ x | exact x) fun _ _ e => e
theorem c_due {x : Str} {t₀ : Tok} {Q : Value → Shared → Prop} (G : Gnd w h₀) (S : St h₀ os L vs l led s) (O : AOk A 8 200) (hx : x.length ≤ 100000)
    (hQ : ∀ D vals k cells s', DatAll cells vals (dueD x) → St h₀ os L vs l ((D, lsO vals k) :: (cells ++ led)) s' → Q (.ref D) s') :
    wpAny (model pw w) A (call (.ref 236) [.str x t₀]) Q E s := by
  have K := fn_due w.params (.str x t₀)
  refine call_fn K rs_due G S (by have := O.dp; omega) ?_
  clear S
  intro L' oL s₁ S
  have V0 := sl_due_page w.params L'
  have V1 := sl_due_tops w.params L'
  have V2 := sl_due_rows w.params L'
  have V3 := sl_due_lines w.params L'
  have V4 := sl_due_k w.params L'
  have V5 := sl_due_wide w.params L'
  have V6 := sl_due_lead w.params L'
  have V7 := sl_due_told w.params L'
  have V8 := sl_due_uneven w.params L'
  have V9 := sl_due_words w.params L'
  have O := O.deeper (env := callEnv (fdOf w.params 236) L' 236)
  dsimp only [List.map, List.replicate, List.cons_append, List.nil_append, List.append_nil, List.length] at S
  refine seqI ?_
  repeat tb_start
  refine newL S (show 1 ≤ sizeLine by decide +kernel) ?_
  clear S; intro T s S
  obtain ⟨te, ete⟩ : ∃ te, te = t := ⟨_, rfl⟩
  rw [← ete] at S
  repeat tb_start
  refine newL S (Nat.zero_le _) ?_
  clear S; intro R s S
  repeat tb_start
  refine splitC S (by decide +kernel) (Nat.le_trans (by omega) (show 8000000 ≤ sizeLine by decide +kernel)) ?_
  clear S; intro D pz s hps S
  have hlin : linesOf x = pz.map (·.1) := hps.symm
  repeat tb_start
  refine wpFor (by intro _; rfl) ?_
  repeat tb_start
  have hlen : pz.length ≤ x.length + 1 := by
    have := split_weight x (Str.ofString "\n") (by decide +kernel)
    rw [← hps, List.length_map] at this
    omega
  refine lenL S (isL (S.N _ (.head _)).1) (Nat.le_trans (by simp [strValues]; omega) (show 8000000 ≤ sizeLine by decide +kernel)) ?_
  clear S; intro t s S
  refine rng1 S ?_
  clear S; intro r tr v s hr S
  have S := S.perm (led' := (R, lstO []) :: (T, lstO [.str (Str.ofString "") te]) :: (D, lstO (strValues pz)) :: (L, oL) :: led) ((perm_mid [_, _] _ _).symm)
  refine forRange (led₀ := [(R, lstO []), (T, lstO [.str (Str.ofString "") te])]) (led := (D, lstO (strValues pz)) :: (L, oL) :: led) (fun i l led' => ∃ vals kr tvals kt cells st rs kv v1 v2 v3 v4 v5, led' = (R, lsO vals kr) :: (T, lsO tvals kt) :: cells ∧ DatAll cells vals rs ∧ TopsS tvals st ∧ st.getLast? = some (Str.ofString "") ∧ (∀ z ∈ st, z.length ≤ 100000) ∧ st.length ≤ i + 1 ∧ vals.length ≤ i ∧
    dueD x = rs ++ duGo ((linesOf x).drop i) i st ∧
    l = [some (.str x t₀), some (.ref T), some (.ref R), some (.ref D), kv, v1, v2, v3, v4, v5]) O.hd S ⟨[], 0, [.str (Str.ofString "") te], 0, [], [Str.ofString ""], [], none, none, none, none, none, none, rfl, .nil, ⟨[], _, rfl, rfl⟩, rfl, by simp; decide +kernel, by simp, by simp, by simp [dueD], rfl⟩ hr (PySem.small_one (by decide) (by decide) (by omega) (by simp [strValues]; omega)) ?_ ?_
  · rintro i tk l led' I oI s hi ⟨vals, kr, tvals, kt, cells, st, rs, kv, v1, v2, v3, v4, v5, rfl, hdat, htop, hst, hzl, hsl, hvl, hdu, rfl⟩ S
    have hi' : i < pz.length := by simpa [strValues] using hi
    have e0 : (0 : Int) + (i : Nat) = ((i : Nat) : Int) := by omega
    rw [e0]
    dsimp only [List.cons_append] at S
    obtain ⟨p, hp⟩ : ∃ p, pz[i]? = some p := ⟨_, List.getElem?_eq_getElem hi'⟩
    have hpl : p.1.length ≤ 100000 := by
      have := split_weight x (Str.ofString "\n") (by decide +kernel)
      rw [← hps] at this
      have h2 := le_sum_mem (x := p.1.length) (l := (pz.map (·.1)).map (·.length)) (List.mem_map.mpr ⟨p.1, List.mem_map.mpr ⟨p, List.mem_of_getElem? hp, rfl⟩, rfl⟩)
      have h3 : 0 < pz.length := by omega
      rw [List.length_map] at this
      omega
    refine wpAny_assign_Name (stL S V4 (by simp) ?_)
    clear S; intro s S; dsimp only [List.set] at S
    refine absQ ?_
    intro QT ET hQT _
    repeat tb_start
    have hLle : leadLen p.1.cps.toList ≤ p.1.length := by have := leadLen_le p.1.cps.toList; simpa [Str.length] using this
    refine exJ (fun s => ∃ tw, St h₀ os L' (Str.ofString "page" :: rs_due) [some (.str x t₀), some (.ref T), some (.ref R), some (.ref D), some (.int (i : Nat) tk), some (.int (leadLen p.1.cps.toList : Nat) tw), v2, v3, v4, v5]
      ((R, lsO vals kr) :: (T, lsO tvals kt) :: (cells ++ (I, oI) :: (D, lstO (strValues pz)) :: (L, oL) :: led)) s) ?_ ?_
    · refine wpAny_While (codeAny_whileLoop (fun n s => ∃ j tw, n = leadLen p.1.cps.toList - j ∧ j ≤ leadLen p.1.cps.toList ∧ St h₀ os L' (Str.ofString "page" :: rs_due) [some (.str x t₀), some (.ref T), some (.ref R), some (.ref D), some (.int (i : Nat) tk), some (.int (j : Nat) tw), v2, v3, v4, v5]
        ((R, lsO vals kr) :: (T, lsO tvals kt) :: (cells ++ (I, oI) :: (D, lstO (strValues pz)) :: (L, oL) :: led)) s) ?_ _ ⟨0, _, rfl, Nat.zero_le _, S⟩)
      clear S
      rintro n s ⟨j, tw, rfl, hj, S⟩
      refine isAndC (P := St h₀ os L' (Str.ofString "page" :: rs_due) [some (.str x t₀), some (.ref T), some (.ref R), some (.ref D), some (.int (i : Nat) tk), some (.int (j : Nat) tw), v2, v3, v4, v5]
        ((R, lsO vals kr) :: (T, lsO tvals kt) :: (cells ++ (I, oI) :: (D, lstO (strValues pz)) :: (L, oL) :: led))) (bx := decide (j < p.1.length)) (by_ := decide (j < leadLen p.1.cps.toList)) ?_ ?_ ?_
      · repeat tb_start
        refine itemL (isL (S.N (D, lstO (strValues pz)) (by simp)).1) (by with_unfolding_all rfl) (by intro _; with_unfolding_all rfl) (by omega) (by omega) (x := .str p.1 p.2) (by simp [strValues, hp]) ?_
        refine lenS S (Nat.le_trans (by omega) (show 8000000 ≤ sizeLine by decide +kernel)) ?_
        clear S; intro t s S
        repeat tb_start
        exact ⟨decide_eq_decide.mpr (by omega), S⟩
      · intro hjl
        rw [decide_eq_true_eq] at hjl
        clear S; intro s S
        repeat tb_start
        refine itemL (isL (S.N (D, lstO (strValues pz)) (by simp)).1) (by with_unfolding_all rfl) (by intro _; with_unfolding_all rfl) (by omega) (by omega) (x := .str p.1 p.2) (by simp [strValues, hp]) ?_
        repeat tb_start
        obtain ⟨c, hc⟩ : ∃ c, p.1.cps[j]? = some c := ⟨_, Array.getElem?_eq_getElem hjl⟩
        refine chS S hc (by omega) (by with_unfolding_all rfl) ?_
        clear S; intro t s S
        repeat tb_start
        refine ⟨?_, S⟩
        apply decide_eq_decide.mpr
        rw [lit_st, ← leadLen_at hj (c := c) (by simpa using hc)]
        simp
      clear S; intro s S
      cases hb : (decide (j < p.1.length) && decide (j < leadLen p.1.cps.toList)) with
      | true =>
        rw [Bool.and_eq_true, decide_eq_true_eq, decide_eq_true_eq] at hb
        rw [if_pos rfl]
        repeat tb_start
        have ej : ((j : Nat) : Int) + 1 = ((j + 1 : Nat) : Int) := by omega
        rw [ej] at S
        exact ⟨leadLen p.1.cps.toList - (j + 1), by omega, j + 1, _, rfl, by omega, S⟩
      | false =>
        rw [if_neg (by decide)]
        repeat tb_start
        have : j = leadLen p.1.cps.toList := by
          rw [Bool.and_eq_false_iff, decide_eq_false_iff_not, decide_eq_false_iff_not] at hb
          omega
        rw [this] at S
        exact ⟨rfl, _, S⟩
    · clear S
      rintro s ⟨tw, S⟩
      repeat tb_start
      refine itemL (isL (S.N (D, lstO (strValues pz)) (by simp)).1) (by with_unfolding_all rfl) (by intro _; with_unfolding_all rfl) (by omega) (by omega) (x := .str p.1 p.2) (by simp [strValues, hp]) ?_
      repeat tb_start
      have hlead : (leadS p.1).length ≤ 100000 := Nat.le_trans (slice_len _ _ _) hpl
      rw [show Txt.slice p.1 none (some ((leadLen p.1.cps.toList : Nat) : Int)) = leadS p.1 from rfl] at S
      obtain ⟨tq, S⟩ : ∃ tq, St h₀ os L' (Str.ofString "page" :: rs_due) [some (.str x t₀), some (.ref T), some (.ref R), some (.ref D), some (.int (i : Nat) tk), some (.int (leadLen p.1.cps.toList : Nat) tw), some (.str (leadS p.1) tq), v3, v4, v5]
        ((R, lsO vals kr) :: (T, lsO tvals kt) :: (cells ++ (I, oI) :: (D, lstO (strValues pz)) :: (L, oL) :: led)) s := ⟨_, S⟩
      obtain _ | ⟨d, st⟩ := st
      · cases hst
      obtain ⟨tv, td, rfl, htr⟩ := id htop
      refine lastL (S.N (T, lsO (tv ++ [.str d td]) kt) (.tail _ (.head _))).1 (by with_unfolding_all rfl) ?_
      repeat tb_start
      refine c_apart G S (O.le (by omega) (by omega)) (hzl d (.head _)) hlead ?_
      clear S; intro Da xa ka ca s hTa hDa S
      have hdrop : (linesOf x).drop i = p.1 :: (linesOf x).drop (i + 1) := by
        have hlt : i < (linesOf x).length := by rw [hlin]; simpa using hi'
        rw [List.drop_eq_getElem_cons hlt]
        congr 1
        have : (linesOf x)[i]? = some p.1 := by rw [hlin, List.getElem?_map, hp]; rfl
        rw [List.getElem?_eq_getElem hlt] at this
        exact Option.some.inj this
      rw [hdrop] at hdu
      unfold duGo at hdu
      rw [List.headD_cons] at hdu
      iterate 3 tb_start
      have S := S.perm (led' := (R, lsO vals kr) :: (T, lsO (tv ++ [.str d td]) kt) :: ((ca ++ cells) ++ (I, oI) :: (D, lstO (strValues pz)) :: (L, oL) :: led)) (pmA _ _ _ _ _)
      have hdat := hdat.mono (news' := ca ++ cells) fun p hp => List.mem_append_right _ hp
      have hTa := hTa.mono (led' := ca ++ cells) fun p hp => List.mem_append_left _ hp
      have hDa : (Da, lsO xa ka) ∈ ca ++ cells := List.mem_append_left _ hDa
      generalize ca ++ cells = cells at S hdat hTa hDa
      have tl : ∀ {tvals : List Value} {kt}, ∀ p ∈ cells, p ∈ (R, lsO vals kr) :: (T, lsO tvals kt) :: (cells ++ (I, oI) :: (D, lstO (strValues pz)) :: (L, oL) :: led) := fun p hp => .tail _ (.tail _ (List.mem_append_left _ hp))
      refine exJR (fun s => ∃ tvals' kt' cells' st', DatAll cells' vals rs ∧ TopsS tvals' st' ∧ st'.getLast? = some (Str.ofString "") ∧ (∀ z ∈ st', z.length ≤ 100000) ∧ st'.length ≤ i + 2 ∧ dueD x = rs ++ (rowD (st'.length - 1) (tailS p.1) :: duGo ((linesOf x).drop (i + 1)) (i + 1) st') ∧
        ∃ v2 v3 v4 v5, St h₀ os L' (Str.ofString "page" :: rs_due) [some (.str x t₀), some (.ref T), some (.ref R), some (.ref D), some (.int (i : Nat) tk), some (.int (leadLen p.1.cps.toList : Nat) tw), v2, v3, v4, v5]
          ((R, lsO vals kr) :: (T, lsO tvals' kt') :: (cells' ++ (I, oI) :: (D, lstO (strValues pz)) :: (L, oL) :: led)) s) ?_ ?_
      rotate_left
      · clear S htop htr
        rintro s ⟨tvals', kt', cells', st', hdat', htop', hst', hzl', hsl', hdu', v2, v3, v4, v5, S⟩
        have hlen' := htop'.len
        repeat tb_start
        intro pl
        refine gmListAppend (a := R) (n := kr) (items := vals.toArray) (S.N (R, lsO vals kr) (.head _)).1 ?_
        repeat tb_start
        refine lenL S (isL (S.N (T, lsO tvals' kt') (.tail _ (.head _))).1) (Nat.le_trans (by simp; omega) (show 8000000 ≤ sizeLine by decide +kernel)) ?_
        clear S; intro t s S
        repeat tb_start
        refine itemL (isL (S.N (D, lstO (strValues pz)) (by simp)).1) (by with_unfolding_all rfl) (by intro _; with_unfolding_all rfl) (by omega) (by omega) (x := .str p.1 p.2) (by simp [strValues, hp]) ?_
        repeat tb_start
        rw [show Txt.slice p.1 (some ((leadLen p.1.cps.toList : Nat) : Int)) none = tailS p.1 from rfl]
        have ec : ((tvals'.toArray.size : Nat) : Int) - 1 = ((st'.length - 1 : Nat) : Int) := by
          have : st'.length ≠ 0 := by intro q; rw [List.length_eq_zero_iff.mp q] at hst'; cases hst'
          simp; omega
        rw [ec]
        refine newT S (show 2 ≤ sizeLine by decide +kernel) ?_
        clear S; intro Tr s S
        repeat tb_start
        have S := S.perm (.swap _ _ _)
        refine appL S (by omega) ?_
        clear S; intro s S
        repeat tb_start
        refine hQT _ _ ?_
        refine turnN (led' := (R, _) :: (T, _) :: (Tr, _) :: cells') (S.perm (.cons _ (.swap _ _ _))) ⟨vals ++ [.ref Tr], kr + 1, tvals', kt', (Tr, _) :: cells', st', rs ++ [rowD (st'.length - 1) (tailS p.1)], _, _, _, _, _, _, rfl, ?_, htop', hst', hzl', hsl', by simp; omega, by rw [hdu', List.append_assoc]; rfl, rfl⟩
        exact (hdat'.mono fun p hp => .tail _ hp).append (.one (.tuple (.head _) (.cons (.int _ _) (.cons (.str _ _) .nil))))
      refine absQ ?_
      intro Q2 E2 hQ2 _
      repeat tb_start
      have hu : (A.deeper (callEnv (fdOf w.params 236) L' 236)).units + 64 < cLine := by have := O.un; omega
      have hapl : ∀ d' : Str, d'.length ≤ 100000 → (apart d' (leadS p.1)).length ≤ 200000 := fun d' hd' => apart_len _ _ hd' hlead
      refine compTold (D := Da) (xs := xa) (kx := ka) (ap := apart d (leadS p.1)) (pred := fun z => decide (0 ≤ z)) IsI (fun far t u s Q E h => PySem.P.ge_int h) O.hd (by with_unfolding_all rfl) (by rfl) (by decide +kernel) (by decide +kernel) (by intro _; rfl) (fun C => by with_unfolding_all rfl) (fun C => by with_unfolding_all rfl)
        S (tl _ hDa) (hTa.mono tl) (hapl d (hzl d (.head _))) ?_ ?_ ?_
      · intro Q' h'
        repeat tb_start
        exact h' _ S
      · intro C oC m n t s led' Q' E' hn ho hm hC S h'
        exact nmC S hC rfl ho (by with_unfolding_all rfl) (by with_unfolding_all rfl) hm (by decide +kernel) (h' _ _ ⟨_, rfl⟩ S)
      clear S; intro R1 y1 k1 s hy1 S
      repeat tb_start
      refine newL S (Nat.zero_le _) ?_
      clear S; intro N1 s S
      repeat tb_start
      refine eqNil S (.tail _ (.head _)) (.head _) hy1 hu ?_
      have hb : (((apart d (leadS p.1)).filter fun n => decide (0 ≤ n.2)).map (·.1)).isEmpty = allLess d (leadS p.1) := by unfold allLess; simp
      rw [hb]
      repeat' tb_start
      · rw [if_pos hc] at hdu
        intro pl
        refine gmListAppend (a := T) (n := kt) (items := (tv ++ [Value.str d td]).toArray) (S.N (T, lsO (tv ++ [.str d td]) kt) (by simp)).1 ?_
        repeat tb_start
        have S := (S.perm (led' := (N1, lstO []) :: (R1, lsO y1 k1) :: (T, lsO (tv ++ [.str d td]) kt) :: (R, lsO vals kr) :: (cells ++ (I, oI) :: (D, lstO (strValues pz)) :: (L, oL) :: led)) (.cons _ (.cons _ (.swap _ _ _)))).drop (((List.Sublist.refl _).cons _).cons _)
        refine appL S (by have := htop.len; simp at this ⊢; simp at hsl; omega) ?_
        clear S; intro s S
        repeat tb_start
        refine hQ2 .next _ ?_
        refine ⟨_, _, cells, leadS p.1 :: d :: st, hdat, ⟨_, _, rfl, htop⟩, by simpa using hst, ?_, by simp at hsl ⊢; omega, hdu, _, _, _, _, S.perm (.swap _ _ _)⟩
        intro z hz
        rcases List.mem_cons.mp hz with rfl | hz
        · exact hlead
        · exact hzl z hz
      · rw [if_neg hc] at hdu
        have hclean := S.perm (led' := (N1, lstO []) :: (R1, lsO y1 k1) :: ((R, lsO vals kr) :: (T, lsO (tv ++ [.str d td]) kt) :: (cells ++ (I, oI) :: (D, lstO (strValues pz)) :: (L, oL) :: led))) (List.Perm.refl _)
        have S := hclean.drop (((List.Sublist.refl _).cons _).cons _)
        clear hclean
        refine exJ (fun s => ∃ tvals' kt' cells' d' st' Da' xa' ka', (∀ p ∈ cells, p ∈ cells') ∧ TopsS tvals' (d' :: st') ∧ popS (leadS p.1) (d :: st) = d' :: st' ∧ st'.length ≤ st.length ∧ Told cells' xa' (apart d' (leadS p.1)) ∧ (Da', lsO xa' ka') ∈ cells' ∧
          St h₀ os L' (Str.ofString "page" :: rs_due) [some (.str x t₀), some (.ref T), some (.ref R), some (.ref D), some (.int (i : Nat) tk), some (.int (leadLen p.1.cps.toList : Nat) tw), some (.str (leadS p.1) tq), some (.ref Da'), v4, v5]
          ((R, lsO vals kr) :: (T, lsO tvals' kt') :: (cells' ++ (I, oI) :: (D, lstO (strValues pz)) :: (L, oL) :: led)) s) ?_ ?_
        · refine wpAny_While (codeAny_whileLoop (fun n s => ∃ tvals' kt' cells' d' st' Da' xa' ka', n = st'.length ∧ (∀ p ∈ cells, p ∈ cells') ∧ TopsS tvals' (d' :: st') ∧ popS (leadS p.1) (d' :: st') = popS (leadS p.1) (d :: st) ∧ (d' :: st').getLast? = some (Str.ofString "") ∧ (∀ z ∈ d' :: st', z.length ≤ 100000) ∧ st'.length ≤ st.length ∧ Told cells' xa' (apart d' (leadS p.1)) ∧ (Da', lsO xa' ka') ∈ cells' ∧
            St h₀ os L' (Str.ofString "page" :: rs_due) [some (.str x t₀), some (.ref T), some (.ref R), some (.ref D), some (.int (i : Nat) tk), some (.int (leadLen p.1.cps.toList : Nat) tw), some (.str (leadS p.1) tq), some (.ref Da'), v4, v5]
            ((R, lsO vals kr) :: (T, lsO tvals' kt') :: (cells' ++ (I, oI) :: (D, lstO (strValues pz)) :: (L, oL) :: led)) s) ?_ st.length ⟨_, _, cells, d, st, Da, xa, ka, rfl, fun _ h => h, htop, rfl, hst, hzl, Nat.le_refl _, hTa, hDa, S⟩)
          clear S
          rintro n s ⟨tvals', kt', cells', d', st', Da', xa', ka', rfl, hsub, htop', hpop, hst', hzl', hle', hTa', hDa', S⟩
          have tl : ∀ {tvals : List Value} {kt}, ∀ p ∈ cells', p ∈ (R, lsO vals kr) :: (T, lsO tvals kt) :: (cells' ++ (I, oI) :: (D, lstO (strValues pz)) :: (L, oL) :: led) := fun p hp => .tail _ (.tail _ (List.mem_append_left _ hp))
          obtain ⟨tv', td', rfl, htr'⟩ := id htop'
          repeat tb_start
          refine compTold (D := Da') (xs := xa') (kx := ka') (ap := apart d' (leadS p.1)) (pred := fun z => decide (z ≤ 0)) IsI (fun far t u s Q E h => PySem.P.le_int h) O.hd (by with_unfolding_all rfl) (by rfl) (by decide +kernel) (by decide +kernel) (by intro _; rfl) (fun C => by with_unfolding_all rfl) (fun C => by with_unfolding_all rfl)
            S (tl _ hDa') (hTa'.mono tl) (hapl d' (hzl' d' (.head _))) ?_ ?_ ?_
          · intro Q' h'
            repeat tb_start
            exact h' _ S
          · intro C oC m n t s led' Q' E' hn ho hm hC S h'
            exact nmC S hC rfl ho (by with_unfolding_all rfl) (by with_unfolding_all rfl) hm (by decide +kernel) (h' _ _ ⟨_, rfl⟩ S)
          clear S; intro R2 y2 k2 s hy2 S
          repeat tb_start
          refine newL S (Nat.zero_le _) ?_
          clear S; intro N2 s S
          repeat tb_start
          refine eqNil S (.tail _ (.head _)) (.head _) hy2 hu ?_
          have hb2 : (((apart d' (leadS p.1)).filter fun n => decide (n.2 ≤ 0)).map (·.1)).isEmpty = allMore d' (leadS p.1) := by unfold allMore; simp
          rw [hb2]
          have S := (S.perm (led' := (N2, lstO []) :: (R2, lsO y2 k2) :: (T, lsO (tv' ++ [.str d' td']) kt') :: (R, lsO vals kr) :: (cells' ++ (I, oI) :: (D, lstO (strValues pz)) :: (L, oL) :: led)) (.cons _ (.cons _ (.swap _ _ _)))).drop (((List.Sublist.refl _).cons _).cons _)
          cases hm : allMore d' (leadS p.1) with
          | true =>
            obtain _ | ⟨d2, st2⟩ := st'
            · have : d' = Str.ofString "" := by simpa using hst'
              rw [this, allMore_bot] at hm; cases hm
            obtain ⟨tv2, td2, rfl, htr2⟩ := id htr'
            repeat tb_start
            intro pl
            refine gmListPop (a := T) (n := kt') (items := ((tv2 ++ [Value.str d2 td2]) ++ [Value.str d' td']).toArray) (S.N (T, lsO ((tv2 ++ [.str d2 td2]) ++ [.str d' td']) kt') (by simp)).1 ?_
            repeat tb_start
            refine popL S (by have := htr'.len; simp at this ⊢; simp at hsl hle'; omega) ?_
            clear S; intro s S
            repeat tb_start
            refine lastL (v := .str d2 td2) (S.N _ (.head _)).1 (by with_unfolding_all rfl) ?_
            repeat tb_start
            refine c_apart G S (O.le (by omega) (by omega)) (hzl' d2 (by simp)) hlead ?_
            clear S; intro Da2 xa2 ka2 ca2 s hTa2 hDa2 S
            repeat tb_start
            refine ⟨st2.length, by simp, tv2 ++ [.str d2 td2], kt' + 1, ca2 ++ cells', d2, st2, Da2, xa2, ka2, rfl, fun p hp => List.mem_append_right _ (hsub p hp), htr', ?_, by simpa using hst', fun z hz => hzl' z (.tail _ hz), by simp at hle'; omega, hTa2.mono (fun p hp => List.mem_append_left _ hp), List.mem_append_left _ hDa2, S.perm ?_⟩
            · rw [← hpop]
              conv => rhs; unfold popS
              rw [if_pos hm]
            · exact pmB _ _ _ _ _
          | false =>
            repeat tb_start
            refine ⟨rfl, _, _, cells', d', st', Da', xa', ka', hsub, htop', ?_, hle', hTa', hDa', S.perm (.swap _ _ _)⟩
            rw [← hpop]
            unfold popS
            rw [if_neg (by rw [hm]; decide)]
        · clear S htop htr hTa hDa
          rintro s ⟨tvals', kt', cells', d', st', Da', xa', ka', hsub, htop', hpop, hle', hTa', hDa', S⟩
          rw [hpop, List.headD_cons] at hdu
          have tl : ∀ {tvals : List Value} {kt}, ∀ p ∈ cells', p ∈ (R, lsO vals kr) :: (T, lsO tvals kt) :: (cells' ++ (I, oI) :: (D, lstO (strValues pz)) :: (L, oL) :: led) := fun p hp => .tail _ (.tail _ (List.mem_append_left _ hp))
          repeat tb_start
          have hzl2 : d'.length ≤ 100000 := hzl d' (popS_mem (by rw [hpop]; exact .head _))
          refine exJ (fun s => ∃ R2 y2 k2 v5, All2 IsT y2 (unev d' (leadS p.1)) ∧ St h₀ os L' (Str.ofString "page" :: rs_due) [some (.str x t₀), some (.ref T), some (.ref R), some (.ref D), some (.int (i : Nat) tk), some (.int (leadLen p.1.cps.toList : Nat) tw), some (.str (leadS p.1) tq), some (.ref Da'), some (.ref R2), v5]
            ((R2, lsO y2 k2) :: (R, lsO vals kr) :: (T, lsO tvals' kt') :: (cells' ++ (I, oI) :: (D, lstO (strValues pz)) :: (L, oL) :: led)) s) ?_ ?_
          · repeat tb_start
            refine compToldU (D := Da') (xs := xa') (kx := ka') (ap := apart d' (leadS p.1)) (pred := fun z => decide (z ≠ 0)) IsT V8 (by simp) (by with_unfolding_all rfl) (fun far t u s Q E h => PyProof.Rows.ne_int (by rw [show (far != 0) = decide (far ≠ 0) from by by_cases q : far = 0 <;> simp [q]]; exact h)) O.hd (by with_unfolding_all rfl) (by rfl) (by decide +kernel) (by decide +kernel) (by intro _; rfl) (fun C => by with_unfolding_all rfl) (fun C => by with_unfolding_all rfl)
              S (tl _ hDa') (hTa'.mono tl) (hapl d' hzl2) ?_ ?_ ?_
            · intro Q' h'
              repeat tb_start
              exact h' _ S
            · intro C oC m n t s led' Q' E' hn ho hm hC S h'
              refine callName ?_
              refine nmB' G S (bl_str _) (by with_unfolding_all rfl) (by with_unfolding_all rfl) (by with_unfolding_all rfl) (by with_unfolding_all rfl) ?_
              refine cwT rfl ?_
              dsimp only [ArgsW, List.nil_append]
              refine nmC S hC rfl ho (by with_unfolding_all rfl) (by with_unfolding_all rfl) hm (by decide +kernel) ?_
              have hn1 := (apart_bd d' (leadS p.1) hzl2 hlead).2 n hn
              refine P.str_of_int ?_ (h' _ _ ⟨_, rfl⟩ (S.toks (Nat.succ_pos _)))
              rw [Int.natAbs_natCast]
              by_cases h0 : n.1 = 0
              · rw [h0]; decide +kernel
              · have := (Nat.log2_lt h0).mpr (show n.1 < 2 ^ 20 by omega)
                omega
            clear S; intro R2 y2 k2 s hy2 S
            exact ⟨rfl, R2, y2, k2, _, hy2, S⟩
          clear S
          rintro s ⟨R2, y2, k2, v5', hy2, S⟩
          repeat tb_start
          refine newL S (Nat.zero_le _) ?_
          clear S; intro N2 s S
          repeat tb_start
          have hk := numsOk (unev d' (leadS p.1))
          refine neDat (r := (unev d' (leadS p.1)).isEmpty) S (d := .list ((unev d' (leadS p.1)).map fun n => Dat.str (numS n))) (e := .list []) (.list (.tail _ (.head _)) (datT hy2)) (.list (.head _) .nil) hk (by simp [kqdOk]) hu ?_ ?_
          · cases unev d' (leadS p.1) <;> simp
          cases he : unev d' (leadS p.1) with
          | nil =>
            rw [he, if_pos rfl] at hdu
            have S := (S.perm (led' := (N2, lstO []) :: (R2, lsO y2 k2) :: (R, lsO vals kr) :: (T, lsO tvals' kt') :: (cells' ++ (I, oI) :: (D, lstO (strValues pz)) :: (L, oL) :: led)) (List.Perm.refl _)).drop (((List.Sublist.refl _).cons _).cons _)
            repeat tb_start
            · exact absurd hc (by simp)
            repeat tb_start
            refine hQ2 .next _ ?_
            refine ⟨tvals', kt', cells', d' :: st', hdat.mono hsub, htop', ?_, ?_, ?_, hdu, _, _, _, _, S⟩
            · rw [← hpop, popS_last (by rw [hpop]; simp)]; exact hst
            · intro z hz
              exact hzl z (popS_mem (by rw [hpop]; exact hz))
            · simp at hsl ⊢; omega
          | cons n0 ns0 =>
            rw [he, if_neg (by simp)] at hdu
            rw [he] at hy2
            have hub := apart_bd d' (leadS p.1) hzl2 hlead
            have hul : (n0 :: ns0).length ≤ 100001 ∧ ∀ n ∈ n0 :: ns0, n ≤ 100001 := by
              rw [← he]
              unfold unev
              refine ⟨?_, fun n hn => ?_⟩
              · rw [List.length_map]; exact Nat.le_trans (List.length_filter_le _ _) hub.1
              · obtain ⟨z, hz, rfl⟩ := List.mem_map.mp hn
                exact hub.2 z (List.mem_filter.mp hz).1
            have hjl := joinS_len (Str.ofString ", ") (by decide +kernel) (n0 :: ns0) hul.1 hul.2
            have hjk := joinOk_nums (Str.ofString ", ") (by decide +kernel) (n0 :: ns0) hul.1 hul.2
            have l33 : (Str.ofString "indent not equal e.g. at tab size").length = 33 := by decide +kernel
            have l2 : (Str.ofString "s ").length = 2 := by decide +kernel
            have hyl := hy2.len
            have hul1 := hul.1
            dsimp only [List.isEmpty]
            generalize n0 :: ns0 = ns at hdu hy2 hjl hjk hyl hul1
            clear hub hul he
            repeat tb_start
            rotate_left
            · exact absurd rfl hc
            refine IfExp_ ?_
            repeat tb_start
            refine lenL S (isL (S.N (R2, lsO y2 k2) (.tail _ (.head _))).1) (Nat.le_trans (by simp; omega) (show 8000000 ≤ sizeLine by decide +kernel)) ?_
            clear S; intro t s S
            repeat' tb_start
            all_goals
              refine joinC S (.tail _ (.head _)) hy2 hjk ?_
              clear S; intro tj s S
              repeat tb_start
              intro pl
              refine gmListAppend (a := R) (n := kr) (items := vals.toArray) (S.N (R, lsO vals kr) (.tail _ (.tail _ (.head _)))).1 ?_
              repeat tb_start
              refine itemL (isL (S.N (D, lstO (strValues pz)) (by simp)).1) (by with_unfolding_all rfl) (by intro _; with_unfolding_all rfl) (by omega) (by omega) (x := .str p.1 p.2) (by simp [strValues, hp]) ?_
              refine newT' S (show 3 ≤ sizeLine by decide +kernel) ?_
              clear S; intro Tr oT s hoT S
              repeat tb_start
              have S := S.perm (led' := (R, lsO vals kr) :: (Tr, oT) :: (T, lsO tvals' kt') :: (N2, lstO []) :: (R2, lsO y2 k2) :: (cells' ++ (I, oI) :: (D, lstO (strValues pz)) :: (L, oL) :: led)) (pmC _ _ _ _ _ _)
              refine appL S (by omega) ?_
              clear S; intro s S
              repeat tb_start
              refine hQ2 (.ret (.ref R)) _ (hQT (.ret (.ref R)) _ ?_)
              show Ret h₀ os L vs l oL Q (.ret (.ref R)) s
              have S := (S.perm (led' := (T, lsO tvals' kt') :: (N2, lstO []) :: (R2, lsO y2 k2) :: (I, oI) :: (D, lstO (strValues pz)) :: ((L, oL) :: (R, lsO (vals ++ [.ref Tr]) (kr + 1)) :: (((Tr, oT) :: cells') ++ led))) (pmD _ _ _ _ _ _ _ _ _ _)).drop (((((List.Sublist.refl _).cons _).cons _).cons _).cons _ |>.cons _)
              refine ⟨_, _, _, _, S, fun S => hQ R _ _ _ _ ?_ S⟩
              rw [hdu, hoT]
              refine (hdat.mono fun p hp => .tail _ (hsub p hp)).append (.one (.tuple (.head _) (.cons (.int _ _) (.cons ?_ (.cons (.str _ _) .nil)))))
              unfold uneS
              first
                | (rw [if_pos (by simp at hc; omega)]; exact .str _ _)
                | (rw [if_neg (by simp at hc; omega)]; exact .str _ _)
  · rintro l led' s ⟨vals, kr, tvals, kt, cells, st, rs, kv, v1, v2, v3, v4, v5, rfl, hdat, htop, hst, hzl, hsl, hvl, hdu, rfl⟩ S
    dsimp only [List.cons_append] at S
    repeat tb_start
    have hdr : (linesOf x).drop ((↑(strValues pz).toArray.size : Int) - 0).toNat = [] := List.drop_of_length_le (by rw [hlin]; simp [strValues])
    rw [hdr] at hdu
    unfold duGo at hdu
    rw [List.append_nil] at hdu
    have S := (S.perm (led' := (T, lsO tvals kt) :: (D, lstO (strValues pz)) :: (L, oL) :: (R, lsO vals kr) :: (cells ++ led)) (pmE _ _ _ _ _ _)).drop ((List.sublist_cons_self _ _).trans (List.sublist_cons_self _ _))
    exact ⟨_, _, _, _, S, fun S => hQ R vals kr cells _ (by rw [hdu]; exact hdat) S⟩
end
end
section
open PySem PySem.W PySem.Calls PyProof.Rows PySem.Spec PyProof.V
set_option maxRecDepth 100000
set_option maxHeartbeats 4000000
set_option linter.unusedVariables false

/-! ### the plain law: what a strict reader makes of what a hand wrote -/
def spec : List Nat := [13, 10, 9, 60, 62, 34]
def carrR (safe : List Nat) (ins : Bool) : Bool → List Nat → List Nat
  | _, [] => []
  | beh, c :: r =>
    if c ∈ safe ∨ ¬ c ∈ spec then c :: carrR safe ins false r
    else if c ∈ [60, 62, 34] then carrR safe ins false r
    else (if c ≠ 10 ∨ beh = false then [if ins then 32 else if c = 9 then 9 else 10] else []) ++ carrR safe ins (c == 13) r
theorem carr_foldl (safe : List Nat) (ins : Bool) : ∀ (x : List Nat) (out : List Nat) (beh : Bool), (x.foldl (cstep safe ins) (out, beh)).1 = out ++ carrR safe ins beh x
  | [], out, beh => by simp [carrR]
  | c :: r, out, beh => by
    rw [List.foldl_cons]
    have e : cstep safe ins (out, beh) c = if c ∈ safe ∨ ¬ c ∈ spec then (out ++ [c], false) else if c ∈ [60, 62, 34] then (out, false)
      else ((if c ≠ 10 ∨ beh = false then out ++ [if ins then 32 else if c = 9 then 9 else 10] else out), c == 13) := rfl
    rw [e]
    unfold carrR
    by_cases h1 : c ∈ safe ∨ ¬ c ∈ spec
    · rw [if_pos h1, if_pos h1, carr_foldl safe ins r]; simp
    · rw [if_neg h1, if_neg h1]
      by_cases h2 : c ∈ [60, 62, 34]
      · rw [if_pos h2, if_pos h2, carr_foldl safe ins r]
      · rw [if_neg h2, if_neg h2, carr_foldl safe ins r]
        by_cases h3 : c ≠ 10 ∨ beh = false
        · rw [if_pos h3, if_pos h3]; simp
        · rw [if_neg h3, if_neg h3]; simp
theorem carr_eq (safe : List Nat) (ins : Bool) (x : List Nat) : carr safe ins x = carrR safe ins false x := by
  unfold carr
  rw [carr_foldl]
  rfl

/-- line ends -/
def crlfR : Bool → List Nat → List Nat
  | _, [] => []
  | beh, c :: r => if c = 13 then 10 :: crlfR true r else if c = 10 ∧ beh = true then crlfR false r else c :: crlfR false r
theorem rep1_cons (c : Nat) (z : List Nat) (a : Nat) (x : List Nat) : rep1 c z (a :: x) = (if a = c then z else [a]) ++ rep1 c z x := by
  unfold rep1; rw [List.flatMap_cons]
theorem crlfR_eq : ∀ (n : Nat) (x : List Nat), x.length ≤ n → rep1 13 [10] (crlfL x) = crlfR false x
  | _, [], _ => by simp [crlfL, crlfR, rep1]
  | 0, _ :: _, h => by simp at h
  | n + 1, c :: r, h => by
    by_cases q : (c :: r).take 2 = [13, 10]
    · obtain ⟨d, r', rfl⟩ : ∃ d r', r = d :: r' := by
        cases r with
        | nil => simp at q
        | cons d r' => exact ⟨d, r', rfl⟩
      have h1 : c = 13 := by simpa using congrArg List.head? q
      have h2 : d = 10 := by simp at q; exact q.2
      subst h1 h2
      rw [crlfL_hit, rep1_cons, crlfR_eq n r' (by simp at h; omega)]
      simp [crlfR]
    · rw [crlfL_miss c r q, rep1_cons, crlfR_eq n r (by simpa using h)]
      by_cases hc : c = 13
      · subst hc
        rw [if_pos rfl]
        unfold crlfR
        cases r with
        | nil => rfl
        | cons d r' =>
          have hd : d ≠ 10 := by intro e; subst e; exact q rfl
          rw [if_pos rfl]
          simp [crlfR, hd]
      · rw [if_neg hc]
        conv => rhs; unfold crlfR
        rw [if_neg hc, if_neg (by simp)]
        rfl

/-- what a place makes of a sign -/
def gR (ins : Bool) (c : Nat) : List Nat := if c = 10 then (if ins then [32] else [10]) else if c = 9 then (if ins then [32] else [9]) else if c = 60 ∨ c = 62 ∨ c = 34 then [] else [c]
theorem repS_list (c : Nat) (z x : Str) : (repS c z x).cps.toList = rep1 c z.cps.toList x.cps.toList := rfl
theorem rep1_map (c : Nat) (z : List Nat) (x : List Nat) : rep1 c z x = x.flatMap fun a => if a = c then z else [a] := rfl
theorem wash_list (ins : Bool) (x : Str) : (wash ins x).cps.toList = (crlfR false x.cps.toList).flatMap (gR ins) := by
  have lit_e : (Str.ofString "").cps.toList = [] := by decide +kernel
  have lit_s : (Str.ofString " ").cps.toList = [32] := by decide +kernel
  have lit_n : (Str.ofString "\n").cps.toList = [10] := by decide +kernel
  rw [← crlfR_eq _ _ (Nat.le_refl _), ← crlfS_list]
  unfold wash
  dsimp only
  rw [repS_list, repS_list, repS_list, lit_e]
  cases ins with
  | true =>
    rw [if_pos rfl, repS_list, repS_list, repS_list, lit_s, lit_n]
    generalize rep1 13 [10] (crlfS x).cps.toList = y
    simp only [rep1_map, List.flatMap_assoc]
    congr 1
    funext a
    unfold gR
    by_cases h1 : a = 10
    · subst h1; rfl
    by_cases h2 : a = 9
    · subst h2; rfl
    by_cases h3 : a = 60
    · subst h3; rfl
    by_cases h4 : a = 62
    · subst h4; rfl
    by_cases h5 : a = 34
    · subst h5; rfl
    simp [h1, h2, h3, h4, h5]
  | false =>
    rw [if_neg (by decide), repS_list, lit_n]
    generalize rep1 13 [10] (crlfS x).cps.toList = y
    simp only [rep1_map, List.flatMap_assoc]
    congr 1
    funext a
    unfold gR
    by_cases h1 : a = 10
    · subst h1; rfl
    by_cases h2 : a = 9
    · subst h2; rfl
    by_cases h3 : a = 60
    · subst h3; rfl
    by_cases h4 : a = 62
    · subst h4; rfl
    by_cases h5 : a = 34
    · subst h5; rfl
    simp [h1, h2, h3, h4, h5]

/-! the references -/
def decP (p : List Nat) : List Nat := (decS ⟨#[]⟩ ⟨p.toArray⟩).cps.toList
def decL (x : List Nat) : List Nat := match splL 38 x with
  | [] => []
  | p :: ps => p ++ (ps.map decP).flatten
theorem decS_list (r p : Str) : (decS r p).cps.toList = r.cps.toList ++ decP p.cps.toList := by
  unfold decP decS
  have e : (⟨p.cps.toList.toArray⟩ : Str) = p := by simp
  rw [e]
  rw [app_list, app_list, app_list, app_list]
  simp
theorem decS_foldl : ∀ (ps : List Str) (r : Str), (ps.foldl decS r).cps.toList = r.cps.toList ++ ((ps.map fun p => p.cps.toList).map decP).flatten
  | [], r => by simp
  | p :: ps, r => by
    rw [List.foldl_cons, decS_foldl ps, decS_list]
    simp
theorem readS_list (ins : Bool) (x : Str) : (readS ins x).cps.toList = decL ((crlfR false x.cps.toList).flatMap (gR ins)) := by
  have h := split_list (wash ins x) 38
  rw [wash_list] at h
  unfold readS decL
  rw [lit_amp, ← h]
  cases q : Txt.split (wash ins x) ⟨#[38]⟩ with
  | nil => exact absurd q (split_ne_nil _ _)
  | cons p ps =>
    simp only [List.map_cons]
    exact decS_foldl ps p
theorem decL_nil : decL [] = [] := rfl
theorem decL_cons (c : Nat) (x : List Nat) (h : c ≠ 38) : decL (c :: x) = c :: decL x := by
  unfold decL
  rw [splL, if_neg h]
  cases q : splL 38 x with
  | nil => exact absurd q (splL_ne _ _)
  | cons p ps => rfl
theorem find_semi (name q : List Nat) (hn : 59 ∉ name) : Txt.find ⟨(name ++ 59 :: q).toArray⟩ (Str.ofString ";") = (name.length : Nat) := by
  rw [lit_semi]
  have at_iff : ∀ k, StrLaws.At ⟨(name ++ 59 :: q).toArray⟩ ⟨#[59]⟩ (⟨(name ++ 59 :: q).toArray⟩ : Str).length k ↔ (name ++ 59 :: q)[k]? = some 59 := by
    intro k
    unfold StrLaws.At
    rw [StrLaws.subAt_eq]
    show k + 1 ≤ (name ++ 59 :: q).toArray.size ∧ (((name ++ 59 :: q).drop k).take 1 == [59]) = true ↔ _
    rw [beq_iff_eq, List.size_toArray]
    generalize name ++ 59 :: q = l
    constructor
    · rintro ⟨h1, h2⟩
      have hk : k < l.length := h1
      rw [List.drop_eq_getElem_cons hk] at h2
      have h3 : l[k] = 59 := by injection h2
      rw [List.getElem?_eq_getElem hk, h3]
    · intro h
      have hk : k < l.length := (List.getElem?_eq_some_iff.mp h).1
      refine ⟨hk, ?_⟩
      rw [List.drop_eq_getElem_cons hk]
      have := (List.getElem?_eq_some_iff.mp h).2
      simp [this]
  have hat : (name ++ 59 :: q)[name.length]? = some 59 := by simp
  rcases find_whole ⟨(name ++ 59 :: q).toArray⟩ ⟨#[59]⟩ with ⟨_, hno⟩ | ⟨i, hi, ha, hk⟩
  · exact absurd ((at_iff _).mpr hat) (hno _)
  · rw [hi]
    have h1 := (at_iff i).mp ha
    have h2 : ¬ name.length < i := fun q' => hk _ q' ((at_iff _).mpr hat)
    have h3 : ¬ i < name.length := fun q' => by
      rw [List.getElem?_append_left q'] at h1
      exact hn (List.mem_of_getElem? h1)
    have : i = name.length := by omega
    rw [this]
theorem slice_to (l : List Nat) (k : Nat) (h : k ≤ l.length) : Txt.slice ⟨l.toArray⟩ none (some (k : Nat)) = ⟨(l.take k).toArray⟩ := by
  rw [slice_is, StrLaws.sliceText_to ⟨Int.natCast_nonneg _, by simpa using h⟩]
  simp
theorem slice_from (l : List Nat) (k : Nat) (h : k ≤ l.length) : Txt.slice ⟨l.toArray⟩ (some (k : Nat)) none = ⟨(l.drop k).toArray⟩ := by
  rw [slice_is, StrLaws.sliceText_from ⟨Int.natCast_nonneg _, by simpa using h⟩]
  simp
  exact List.take_of_length_le (by simp)
theorem decP_name (name q : List Nat) (hn : 59 ∉ name) : decP (name ++ 59 :: q) = (sigGet ⟨name.toArray⟩).cps.toList ++ q := by
  unfold decP decS
  rw [find_semi name q hn, slice_to _ _ (by simp), show ((name.length : Nat) : Int) + 1 = ((name.length + 1 : Nat) : Int) by omega, slice_from _ _ (by simp)]
  rw [app_list, app_list]
  have e1 : (name ++ 59 :: q).take name.length = name := by simp
  have e2 : (name ++ 59 :: q).drop (name.length + 1) = q := by
    rw [List.drop_append]; simp
  rw [e1, e2]
  simp
theorem decL_ref (name x : List Nat) (h38 : 38 ∉ name) (h59 : 59 ∉ name) : decL (38 :: (name ++ 59 :: x)) = (sigGet ⟨name.toArray⟩).cps.toList ++ decL x := by
  unfold decL
  rw [splL, if_pos rfl]
  have key : ∀ name : List Nat, 38 ∉ name → ∀ p ps, splL 38 x = p :: ps → splL 38 (name ++ 59 :: x) = (name ++ 59 :: p) :: ps := by
    intro name
    induction name with
    | nil =>
      intro _ p ps q
      rw [List.nil_append, splL, if_neg (by decide), q]
      rfl
    | cons a r ih =>
      intro h p ps q
      rw [List.cons_append, splL, if_neg (fun e : a = 38 => h (e ▸ .head _)), ih (fun q => h (.tail _ q)) p ps q]
      rfl
  cases q : splL 38 x with
  | nil => exact absurd q (splL_ne _ _)
  | cons p ps =>
    rw [key name h38 p ps q]
    show [] ++ (((name ++ 59 :: p) :: ps).map decP).flatten = _
    rw [List.map_cons, List.flatten_cons, decP_name _ _ h59]
    simp

/-! one hand -/
structure HandOk (em : Nat → List Nat) (safe : List Nat) : Prop where
  ref : ∀ c, c ∈ safe ∨ c = 38 → ∃ name, em c = 38 :: (name ++ [59]) ∧ 38 ∉ name ∧ 59 ∉ name ∧ (∀ a ∈ name, a ∉ spec) ∧ (sigGet ⟨name.toArray⟩).cps.toList = [c]
  plain : ∀ c, c ∉ safe → c ≠ 38 → em c = [c]
  nl : 10 ∈ safe → 13 ∈ safe
  sp : ∀ c ∈ safe, c ∈ spec
theorem spec_gR {c : Nat} (h : c ∉ spec) (ins : Bool) : gR ins c = [c] := by
  have h' : c ≠ 13 ∧ c ≠ 10 ∧ c ≠ 9 ∧ c ≠ 60 ∧ c ≠ 62 ∧ c ≠ 34 := by simpa [spec] using h
  unfold gR
  rw [if_neg h'.2.1, if_neg h'.2.2.1, if_neg (by omega)]
theorem crlfR_plain {c : Nat} (h : c ∉ spec) (beh : Bool) (r : List Nat) : crlfR beh (c :: r) = c :: crlfR false r := by
  have h' : c ≠ 13 ∧ c ≠ 10 ∧ c ≠ 9 ∧ c ≠ 60 ∧ c ≠ 62 ∧ c ≠ 34 := by simpa [spec] using h
  conv => lhs; unfold crlfR
  rw [if_neg h'.1, if_neg (by intro q; exact h'.2.1 q.1)]
theorem crlfR_app : ∀ (a : List Nat), (∀ c ∈ a, c ∉ spec) → a ≠ [] → ∀ (beh : Bool) (r : List Nat), crlfR beh (a ++ r) = a ++ crlfR false r
  | [], _, h, _, _ => absurd rfl h
  | [c], h, _, beh, r => crlfR_plain (h c (.head _)) beh r
  | c :: d :: a, h, _, beh, r => by
    rw [List.cons_append, crlfR_plain (h c (.head _)), crlfR_app (d :: a) (fun c hc => h c (.tail _ hc)) (by simp)]
    rfl
theorem gR_app : ∀ (a : List Nat), (∀ c ∈ a, c ∉ spec) → ∀ ins, a.flatMap (gR ins) = a
  | [], _, _ => rfl
  | c :: a, h, ins => by
    rw [List.flatMap_cons, spec_gR (h c (.head _)), gR_app a (fun c hc => h c (.tail _ hc))]
    rfl
theorem ref_plain {name : List Nat} (h : ∀ a ∈ name, a ∉ spec) : ∀ c ∈ 38 :: (name ++ [59]), c ∉ spec := by
  intro c hc
  rcases List.mem_cons.mp hc with rfl | hc
  · decide
  · rcases List.mem_append.mp hc with hc | hc
    · exact h c hc
    · rw [List.mem_singleton.mp hc]; decide
theorem dg1 {ins : Bool} {c d : Nat} (h : gR ins c = [d]) (hd : d ≠ 38) (y : List Nat) : decL ((c :: y).flatMap (gR ins)) = d :: decL (y.flatMap (gR ins)) := by
  rw [List.flatMap_cons, h, List.singleton_append, decL_cons d _ hd]
theorem dg0 {ins : Bool} {c : Nat} (h : gR ins c = []) (y : List Nat) : decL ((c :: y).flatMap (gR ins)) = decL (y.flatMap (gR ins)) := by
  rw [List.flatMap_cons, h, List.nil_append]
theorem read_hand {em : Nat → List Nat} {safe : List Nat} (H : HandOk em safe) (ins : Bool) : ∀ (x : List Nat) (beh : Bool), decL ((crlfR beh (x.flatMap em)).flatMap (gR ins)) = carrR safe ins beh x
  | [], _ => rfl
  | c :: r, beh => by
    have ih := read_hand H ins r
    rw [List.flatMap_cons]
    by_cases h1 : c ∈ safe ∨ c = 38
    · obtain ⟨name, e, h38, h59, hsp, hsig⟩ := H.ref c h1
      have hp := ref_plain hsp
      rw [e, crlfR_app _ hp (by simp), List.flatMap_append, gR_app _ hp]
      have e2 : ∀ y : List Nat, 38 :: (name ++ [59]) ++ y = 38 :: (name ++ 59 :: y) := fun y => by simp
      rw [e2, decL_ref _ _ h38 h59, hsig, ih]
      conv => rhs; unfold carrR
      rw [if_pos (h1.imp id fun e => by rw [e]; decide)]
      rfl
    · have hs : c ∉ safe := fun q => h1 (.inl q)
      have h38 : c ≠ 38 := fun q => h1 (.inr q)
      rw [H.plain c hs h38, List.singleton_append]
      conv => rhs; unfold carrR
      by_cases h2 : c ∈ spec
      · rw [if_neg (by intro q; rcases q with q | q; exact hs q; exact q h2)]
        simp only [spec, List.mem_cons, List.not_mem_nil, or_false] at h2
        rcases h2 with rfl | rfl | rfl | rfl | rfl | rfl
        · have : crlfR beh (13 :: r.flatMap em) = 10 :: crlfR true (r.flatMap em) := by rw [crlfR, if_pos rfl]
          rw [if_neg (by decide), if_pos (.inl (by decide)), this]
          cases ins
          · rw [dg1 (d := 10) rfl (by decide), ih]; rfl
          · rw [dg1 (d := 32) rfl (by decide), ih]; rfl
        · rw [if_neg (by decide)]
          cases beh with
          | true =>
            have : crlfR true (10 :: r.flatMap em) = crlfR false (r.flatMap em) := by rw [crlfR, if_neg (by decide), if_pos (by decide)]
            rw [this, ih]
            rfl
          | false =>
            have : crlfR false (10 :: r.flatMap em) = 10 :: crlfR false (r.flatMap em) := by rw [crlfR, if_neg (by decide), if_neg (by decide)]
            rw [this, if_pos (.inr rfl)]
            cases ins
            · rw [dg1 (d := 10) rfl (by decide), ih]; rfl
            · rw [dg1 (d := 32) rfl (by decide), ih]; rfl
        · have : crlfR beh (9 :: r.flatMap em) = 9 :: crlfR false (r.flatMap em) := by rw [crlfR, if_neg (by decide), if_neg (by simp)]
          rw [this, if_neg (by decide), if_pos (.inl (by decide))]
          cases ins
          · rw [dg1 (d := 9) rfl (by decide), ih]; rfl
          · rw [dg1 (d := 32) rfl (by decide), ih]; rfl
        · have : crlfR beh (60 :: r.flatMap em) = 60 :: crlfR false (r.flatMap em) := by rw [crlfR, if_neg (by decide), if_neg (by simp)]
          rw [this, if_pos (by decide), dg0 rfl, ih]
        · have : crlfR beh (62 :: r.flatMap em) = 62 :: crlfR false (r.flatMap em) := by rw [crlfR, if_neg (by decide), if_neg (by simp)]
          rw [this, if_pos (by decide), dg0 rfl, ih]
        · have : crlfR beh (34 :: r.flatMap em) = 34 :: crlfR false (r.flatMap em) := by rw [crlfR, if_neg (by decide), if_neg (by simp)]
          rw [this, if_pos (by decide), dg0 rfl, ih]
      · rw [if_pos (.inr h2), crlfR_plain h2, dg1 (spec_gR h2 ins) h38, ih]

/-! two hands -/
theorem carrR_app (safe : List Nat) (ins : Bool) : ∀ (a : List Nat), (∀ c ∈ a, c ∉ spec) → a ≠ [] → ∀ (beh : Bool) (r : List Nat), carrR safe ins beh (a ++ r) = a ++ carrR safe ins false r
  | [], _, h, _, _ => absurd rfl h
  | [c], h, _, beh, r => by
    show carrR safe ins beh (c :: r) = _
    conv => lhs; unfold carrR
    rw [if_pos (.inr (h c (.head _)))]
    rfl
  | c :: d :: a, h, _, beh, r => by
    rw [List.cons_append]
    conv => lhs; unfold carrR
    rw [if_pos (.inr (h c (.head _))), carrR_app safe ins (d :: a) (fun c hc => h c (.tail _ hc)) (by simp)]
    rfl
theorem twice_hand {em : Nat → List Nat} {safe so : List Nat} (H : HandOk em safe) (ins : Bool) : ∀ (x : List Nat) (beh : Bool), carrR so ins beh (x.flatMap em) = (carrR (safe ++ so) ins beh x).flatMap em
  | [], _ => rfl
  | c :: r, beh => by
    have ih := twice_hand (so := so) H ins r
    rw [List.flatMap_cons]
    conv => rhs; unfold carrR
    by_cases h1 : c ∈ safe ∨ c = 38
    · obtain ⟨name, e, h38, h59, hsp, hsig⟩ := H.ref c h1
      have hp := ref_plain hsp
      rw [if_pos (h1.imp (List.mem_append_left _) fun e => by rw [e]; decide), List.flatMap_cons, e, carrR_app _ _ _ hp (by simp), ih]
    · have hs : c ∉ safe := fun q => h1 (.inl q)
      have h38 : c ≠ 38 := fun q => h1 (.inr q)
      rw [H.plain c hs h38, List.singleton_append]
      conv => lhs; unfold carrR
      by_cases h2 : c ∈ so ∨ ¬ c ∈ spec
      · rw [if_pos h2, if_pos (h2.imp (List.mem_append_right _) id), List.flatMap_cons, H.plain c hs h38, ih]
        rfl
      · have hso : c ∉ so := fun q => h2 (.inl q)
        have hsp : c ∈ spec := Classical.byContradiction fun q => h2 (.inr q)
        have h4 : ¬ (c ∈ safe ++ so ∨ ¬ c ∈ spec) := by
          rintro (q | q)
          · rcases List.mem_append.mp q with q | q
            · exact hs q
            · exact hso q
          · exact q hsp
        rw [if_neg h2, if_neg h4]
        by_cases h3 : c ∈ [60, 62, 34]
        · rw [if_pos h3, if_pos h3]
          exact ih false
        · rw [if_neg h3, if_neg h3]
          rw [ih, List.flatMap_append]
          congr 1
          have hc : c = 13 ∨ c = 10 ∨ c = 9 := by
            simp only [spec, List.mem_cons, List.not_mem_nil, or_false] at hsp
            rcases hsp with h | h | h | h | h | h
            · exact .inl h
            · exact .inr (.inl h)
            · exact .inr (.inr h)
            · exact absurd (by rw [h]; decide) h3
            · exact absurd (by rw [h]; decide) h3
            · exact absurd (by rw [h]; decide) h3
          have e32 : em 32 = [32] := H.plain 32 (fun q => absurd (H.sp _ q) (by decide)) (by decide)
          split
          · cases ins with
            | true => simp [e32]
            | false =>
              rcases hc with rfl | rfl | rfl
              · have : em 10 = [10] := H.plain 10 (fun q => hs (H.nl q)) (by decide)
                simp [this]
              · have : em 10 = [10] := H.plain 10 hs (by decide)
                simp [this]
              · have : em 9 = [9] := H.plain 9 hs (by decide)
                simp [this]
          · rfl

/-! the five hands -/
def emH (n : Int) (c : Nat) : List Nat := escL ((handPs n).map fun p => (p.1, p.2.cps.toList)) [c]
def safeH (n : Int) : List Nat := (keptS n).cps.toList
theorem esc_em (n : Int) (x : Str) : (escS (handPs n) x).cps.toList = x.cps.toList.flatMap (emH n) := by
  rw [escS_list, escL_each]
  rfl
theorem handOk_of {ps : List (Nat × Str)} {safe : List Nat} (ns : List (List Nat))
    (h1 : (safe.all fun c => spec.contains c) = true) (h2 : (!safe.contains 10 || safe.contains 13) = true) (h3 : (ps.all fun p => p.1 == 38 || safe.contains p.1) = true)
    (h4 : ((38 :: safe).all fun c => ns.any fun name => decide (escL (ps.map fun p => (p.1, p.2.cps.toList)) [c] = 38 :: (name ++ [59])) && !name.contains 38 && !name.contains 59 && (name.all fun a => !spec.contains a) && decide ((sigGet ⟨name.toArray⟩).cps.toList = [c])) = true) :
    HandOk (fun c => escL (ps.map fun p => (p.1, p.2.cps.toList)) [c]) safe := by
  refine ⟨fun c hc => ?_, fun c hc h38 => ?_, fun h => ?_, fun c hc => by simpa using List.all_eq_true.mp h1 c hc⟩
  · have hm : c ∈ 38 :: safe := by
      rcases hc with q | q
      · exact .tail _ q
      · rw [q]; exact .head _
    obtain ⟨name, _, q⟩ := List.any_eq_true.mp (List.all_eq_true.mp h4 c hm)
    simp only [Bool.and_eq_true, decide_eq_true_eq, Bool.not_eq_true'] at q
    obtain ⟨⟨⟨⟨q1, q2⟩, q3⟩, q4⟩, q5⟩ := q
    refine ⟨name, q1, by simpa using q2, by simpa using q3, fun a ha => ?_, q5⟩
    have := List.all_eq_true.mp q4 a ha
    simpa using this
  · refine escL_other _ c fun p hp e => ?_
    obtain ⟨q, hq, rfl⟩ := List.mem_map.mp hp
    have := List.all_eq_true.mp h3 q hq
    simp only at e
    rw [e] at this
    simp [h38, hc] at this
  · have : safe.contains 10 = true := by simpa using h
    rw [this] at h2
    simpa using h2
def namesA : List (List Nat) := [[97, 109, 112], [108, 116], [103, 116], [113, 117, 111, 116], [35, 49, 51], [35, 49, 48], [35, 48, 57], [35, 120, 68], [35, 120, 65], [35, 120, 57]]
theorem hand_ok (n : Int) : HandOk (emH n) (safeH n) := by
  unfold emH safeH handPs keptS
  split
  · exact handOk_of namesA (by decide +kernel) (by decide +kernel) (by decide +kernel) (by decide +kernel)
  · split
    · exact handOk_of namesA (by decide +kernel) (by decide +kernel) (by decide +kernel) (by decide +kernel)
    · split
      · exact handOk_of namesA (by decide +kernel) (by decide +kernel) (by decide +kernel) (by decide +kernel)
      · split
        · exact handOk_of namesA (by decide +kernel) (by decide +kernel) (by decide +kernel) (by decide +kernel)
        · exact handOk_of namesA (by decide +kernel) (by decide +kernel) (by decide +kernel) (by decide +kernel)
theorem str_ext {a b : Str} (h : a.cps.toList = b.cps.toList) : a = b := by
  cases a; cases b; simp at h; simp [h]

/-- (A) -/
theorem read_write (n : Int) (ins : Bool) (x : Str) : readS ins (escS (handPs n) x) = ⟨(carr (keptS n).cps.toList ins x.cps.toList).toArray⟩ := by
  apply str_ext
  rw [readS_list, esc_em, read_hand (hand_ok n), carr_eq]
  simp [safeH]
/-- (B) -/
theorem read_twice (n m : Int) (ins : Bool) (x : Str) : readS ins (escS (handPs m) (escS (handPs n) x)) = escS (handPs n) ⟨(carr (keptS n ++ keptS m).cps.toList ins x.cps.toList).toArray⟩ := by
  rw [read_write m ins (escS (handPs n) x)]
  apply str_ext
  rw [esc_em, carr_eq, carr_eq, esc_em]
  have := twice_hand (so := (keptS m).cps.toList) (hand_ok n) ins x.cps.toList false
  rw [app_list]
  simpa [safeH] using this
end
section
open PySem PySem.W PySem.Calls PyProof.Rows PySem.Spec PyProof.V
set_option maxRecDepth 100000
set_option maxHeartbeats 4000000
set_option linter.unusedVariables false

/-! ### the plain law: the outline by tabnanny is the outline by columns -/
def sumTo : Nat → (Nat → Nat) → Nat
  | 0, _ => 0
  | m + 1, g => sumTo m g + g m
theorem sumTo_foldl (g : Nat → Nat) : ∀ k, (List.range k).foldl (fun il j => il + g j) 0 = sumTo k g
  | 0 => rfl
  | k + 1 => by rw [List.range_succ, List.foldl_append, sumTo_foldl g k]; rfl
theorem sumTo_congr {g h : Nat → Nat} : ∀ m, (∀ i, i < m → g i = h i) → sumTo m g = sumTo m h
  | 0, _ => rfl
  | m + 1, e => by
    show sumTo m g + g m = sumTo m h + h m
    rw [sumTo_congr m (fun i hi => e i (by omega)), e m (by omega)]
theorem sumTo_zero {g : Nat → Nat} : ∀ m, (∀ i, i < m → g i = 0) → sumTo m g = 0
  | 0, _ => rfl
  | m + 1, e => by
    show sumTo m g + g m = 0
    rw [sumTo_zero m (fun i hi => e i (by omega)), e m (by omega)]
theorem sumTo_split (a : Nat) (g : Nat → Nat) : ∀ b, sumTo (a + b) g = sumTo a g + sumTo b fun j => g (a + j)
  | 0 => rfl
  | b + 1 => by
    show sumTo (a + b) g + g (a + b) = sumTo a g + (sumTo b (fun j => g (a + j)) + g (a + b))
    rw [sumTo_split a g b]; omega
theorem sumTo_bump (g : Nat → Nat) (c : Nat → Nat) (b : Nat) : ∀ m, sumTo m (fun i => g i * (c i + if i = b then 1 else 0)) = sumTo m (fun i => g i * c i) + if b < m then g b else 0
  | 0 => by simp [sumTo]
  | m + 1 => by
    show sumTo m _ + g m * (c m + if m = b then 1 else 0) = sumTo m _ + g m * c m + _
    rw [sumTo_bump g c b m]
    by_cases h : m = b
    · subst h
      rw [if_pos rfl, if_neg (by omega), if_pos (by omega), Nat.mul_add]; omega
    · rw [if_neg h]
      by_cases h2 : b < m
      · rw [if_pos h2, if_pos (by omega)]; simp only [Nat.add_zero]; omega
      · rw [if_neg h2, if_neg (by omega)]; simp only [Nat.add_zero]
theorem sumTo_one {f c d : Nat → Nat} (t : Nat) : ∀ m, (∀ i, i < m → i ≠ t → f i * c i = f i * d i) → t < m → sumTo m (fun i => f i * c i) = sumTo m (fun i => f i * d i) → f t * c t = f t * d t
  | 0, _, h, _ => absurd h (Nat.not_lt_zero _)
  | m + 1, e, h, q => by
    have q' : sumTo m (fun i => f i * c i) + f m * c m = sumTo m (fun i => f i * d i) + f m * d m := q
    by_cases hm : t = m
    · subst hm
      rw [sumTo_congr t (g := fun i => f i * c i) (h := fun i => f i * d i) (fun i hi => e i (by omega) (by omega))] at q'
      omega
    · rw [e m (by omega) (Ne.symm hm)] at q'
      exact sumTo_one t m (fun i hi => e i (by omega)) (by omega) (by omega)

theorem bump_get (cnt : List Nat) (b i : Nat) : (bump cnt b).getD i 0 = cnt.getD i 0 + if i = b then 1 else 0 := by
  have h1 : ∀ j, (bumpC cnt b).getD j 0 = cnt.getD j 0 := by
    intro j
    unfold bumpC
    split
    · rw [List.getD_eq_getElem?_getD, List.getD_eq_getElem?_getD, List.getElem?_append]
      split
      · rfl
      · rename_i h
        rw [List.getElem?_eq_none (l := cnt) (by omega), List.getElem?_replicate]
        split <;> rfl
    · rfl
  have h2 := bumpC_len cnt b
  unfold bump
  rw [h1, List.getD_eq_getElem?_getD, List.getElem?_set]
  by_cases h : i = b
  · subst h
    rw [if_pos rfl, if_pos (by omega), if_pos rfl]
    rfl
  · rw [if_neg (Ne.symm h), if_neg h, ← List.getD_eq_getElem?_getD, h1]; rfl
theorem bump_len (cnt : List Nat) (b : Nat) : (bump cnt b).length = max cnt.length (b + 1) := by
  unfold bump; rw [List.length_set, bumpC_len]
theorem getD_ge (cnt : List Nat) (i : Nat) (h : cnt.length ≤ i) : cnt.getD i 0 = 0 := by
  rw [List.getD_eq_getElem?_getD, List.getElem?_eq_none h]; rfl
theorem sumTo_ge (f : Nat → Nat) (cnt : List Nat) (m : Nat) (h : cnt.length ≤ m) : sumTo m (fun i => f i * cnt.getD i 0) = sumTo cnt.length (fun i => f i * cnt.getD i 0) := by
  obtain ⟨k, rfl⟩ := Nat.exists_eq_add_of_le h
  rw [sumTo_split]
  rw [sumTo_zero k (fun j _ => by rw [getD_ge _ _ (by omega)]; rfl)]
  rfl
theorem wsIl_eq (cnt : List Nat) (ts m : Nat) (hts : 1 ≤ ts) (h : cnt.length ≤ m) : wsIl cnt ts = sumTo m (fun i => i / ts * cnt.getD i 0) := by
  have e : wsIl cnt ts = sumTo (cnt.length - ts) fun j => (ts + j) / ts * cnt.getD (ts + j) 0 := sumTo_foldl _ _
  rw [e, sumTo_ge (fun i => i / ts) cnt m h]
  by_cases q : ts ≤ cnt.length
  · obtain ⟨k, hk⟩ := Nat.exists_eq_add_of_le q
    rw [hk, sumTo_split, sumTo_zero ts (fun i hi => by rw [Nat.div_eq_of_lt hi, Nat.zero_mul]), Nat.zero_add, show ts + k - ts = k by omega]
  · rw [show cnt.length - ts = 0 by omega, sumTo_zero cnt.length (fun i hi => by rw [Nat.div_eq_of_lt (by omega), Nat.zero_mul])]
    rfl

/-! columns in numbers -/
def caddN (ts c a : Nat) : Nat := if a = 9 then c + ts - c % ts else c + 1
def colN (ts : Nat) (y : List Nat) : Nat := y.foldl (caddN ts) 0
theorem colZ_N (ts : Nat) (hts : 1 ≤ ts) (y : List Nat) : colZ (ts : Int) y = (colN ts y : Nat) := by
  have key : ∀ (y : List Nat) (c : Nat), y.foldl (cadd (ts : Int)) (c : Int) = ((y.foldl (caddN ts) c : Nat) : Int) := by
    intro y
    induction y with
    | nil => intro c; rfl
    | cons a r ih =>
      intro c
      rw [List.foldl_cons, List.foldl_cons, ← ih]
      congr 1
      unfold cadd caddN
      split
      · have h1 : (c : Int).fmod (ts : Int) = ((c % ts : Nat) : Int) := by
          rw [Int.fmod_eq_emod_of_nonneg _ (by omega)]; omega
        have h2 : c % ts < ts := Nat.mod_lt _ hts
        rw [h1]; omega
      · omega
  exact key y 0
theorem col_one : ∀ (y : List Nat), colN 1 y = y.length := by
  have key : ∀ (y : List Nat) (c : Nat), y.foldl (caddN 1) c = c + y.length := by
    intro y
    induction y with
    | nil => intro c; rfl
    | cons a r ih =>
      intro c
      rw [List.foldl_cons, ih, List.length_cons]
      unfold caddN
      split
      · have : c % 1 = 0 := Nat.mod_one c
        omega
      · omega
  intro y
  unfold colN
  rw [key]; omega

structure WsI (d : WsD) (y : List Nat) : Prop where
  n : d.n = y.length
  nt : d.nt = sumTo d.cnt.length (fun i => 1 * d.cnt.getD i 0)
  col : ∀ ts, 1 ≤ ts → colN ts y = d.b + ts * (sumTo d.cnt.length (fun i => i / ts * d.cnt.getD i 0) + d.nt)
  last : d.cnt ≠ [] → d.cnt.getD (d.cnt.length - 1) 0 ≠ 0
theorem WsI.nil : WsI ⟨[], 0, 0, 0⟩ [] := ⟨rfl, rfl, fun ts _ => by show 0 = 0 + ts * (0 + 0); omega, fun h => absurd rfl h⟩
theorem col_snoc (ts : Nat) (y : List Nat) (a : Nat) : colN ts (y ++ [a]) = caddN ts (colN ts y) a := by
  unfold colN; rw [List.foldl_append]; rfl
theorem WsI.sp {d : WsD} {y : List Nat} (h : WsI d y) : WsI ⟨d.cnt, d.b + 1, d.n + 1, d.nt⟩ (y ++ [32]) := by
  refine ⟨by show d.n + 1 = _; rw [h.n]; simp, h.nt, fun ts hts => ?_, h.last⟩
  rw [col_snoc, h.col ts hts]
  show _ = d.b + 1 + ts * (sumTo d.cnt.length (fun i => i / ts * d.cnt.getD i 0) + d.nt)
  unfold caddN
  rw [if_neg (by decide)]
  omega
theorem sum_bump (f : Nat → Nat) (cnt : List Nat) (b : Nat) : sumTo (bump cnt b).length (fun i => f i * (bump cnt b).getD i 0) = sumTo cnt.length (fun i => f i * cnt.getD i 0) + f b := by
  have hl := bump_len cnt b
  rw [sumTo_congr _ (fun i _ => by rw [bump_get]), sumTo_bump, if_pos (by omega), sumTo_ge f cnt _ (by omega)]
theorem WsI.tab {d : WsD} {y : List Nat} (h : WsI d y) : WsI ⟨bump d.cnt d.b, 0, d.n + 1, d.nt + 1⟩ (y ++ [9]) := by
  refine ⟨by show d.n + 1 = _; rw [h.n]; simp, ?_, fun ts hts => ?_, fun _ => ?_⟩
  · show d.nt + 1 = sumTo (bump d.cnt d.b).length (fun i => 1 * (bump d.cnt d.b).getD i 0)
    rw [sum_bump (fun _ => 1), ← h.nt]
  · rw [col_snoc, h.col ts hts]
    show _ = 0 + ts * (sumTo (bump d.cnt d.b).length (fun i => i / ts * (bump d.cnt d.b).getD i 0) + (d.nt + 1))
    rw [sum_bump (fun i => i / ts)]
    generalize sumTo d.cnt.length (fun i => i / ts * d.cnt.getD i 0) = K
    unfold caddN
    rw [if_pos rfl, Nat.add_mul_mod_self_left]
    have h1 := Nat.div_add_mod d.b ts
    have h2 : d.b % ts < ts := Nat.mod_lt _ hts
    rw [show K + d.b / ts + (d.nt + 1) = (K + d.nt) + (d.b / ts + 1) by omega, Nat.mul_add ts (K + d.nt), Nat.mul_add ts (d.b / ts) 1]
    generalize ts * (K + d.nt) = P
    omega
  · show (bump d.cnt d.b).getD ((bump d.cnt d.b).length - 1) 0 ≠ 0
    rw [bump_get, bump_len]
    by_cases q : d.cnt.length ≤ d.b + 1
    · rw [if_pos (by omega)]; omega
    · have hne : d.cnt ≠ [] := by intro e; rw [e] at q; simp at q
      have := h.last hne
      rw [show max d.cnt.length (d.b + 1) - 1 = d.cnt.length - 1 by omega]
      omega
theorem WsI.scan' : ∀ (l : List Nat) (d : WsD) (y : List Nat), WsI d y → WsI (wscan l d) (y ++ l.take (leadLen l))
  | [], d, y, h => by simpa [wscan, leadLen] using h
  | c :: r, d, y, h => by
    unfold wscan leadLen
    by_cases h1 : c = 32
    · subst h1
      rw [if_pos rfl, if_pos (.inl rfl), List.take_succ_cons]
      have := WsI.scan' r _ _ h.sp
      rwa [List.append_assoc] at this
    · by_cases h2 : c = 9
      · subst h2
        rw [if_neg h1, if_pos rfl, if_pos (.inr rfl), List.take_succ_cons]
        have := WsI.scan' r _ _ h.tab
        rwa [List.append_assoc] at this
      · rw [if_neg h1, if_neg h2, if_neg (by omega)]
        simpa using h
def IsLead (l : List Nat) : Prop := ∀ c ∈ l, c = 32 ∨ c = 9
theorem leadLen_lead : ∀ {l : List Nat}, IsLead l → leadLen l = l.length
  | [], _ => rfl
  | c :: r, h => by
    unfold leadLen
    rw [if_pos (h c (.head _)), leadLen_lead (fun c hc => h c (.tail _ hc))]
    rfl
theorem take_lead : ∀ (l : List Nat), IsLead (l.take (leadLen l))
  | [], c, hc => by simp at hc
  | a :: r, c, hc => by
    unfold leadLen at hc
    split at hc
    · rename_i q
      rw [List.take_succ_cons] at hc
      rcases List.mem_cons.mp hc with rfl | hc
      · exact q
      · exact take_lead r c hc
    · simp at hc
theorem wscan_take : ∀ (l : List Nat) (d : WsD), wscan (l.take (leadLen l)) d = wscan l d
  | [], d => by simp [leadLen]
  | c :: r, d => by
    unfold leadLen
    by_cases h : c = 32 ∨ c = 9
    · rw [if_pos h, List.take_succ_cons]
      have ih := wscan_take r
      conv => lhs; unfold wscan
      conv => rhs; unfold wscan
      rw [ih, ih]
    · rw [if_neg h, List.take_zero]
      conv => rhs; unfold wscan
      rw [if_neg (by omega), if_neg (by omega)]
      rfl
theorem scan_I {l : List Nat} (h : IsLead l) : WsI (scan l) l := by
  have := WsI.scan' l ⟨[], 0, 0, 0⟩ [] WsI.nil
  rw [leadLen_lead h, List.take_length] at this
  exact this
theorem scan_n (l : List Nat) : (scan l).n = leadLen l := by
  have := (WsI.scan' l ⟨[], 0, 0, 0⟩ [] WsI.nil).n
  unfold scan
  rw [this]
  have := leadLen_le l
  simp; omega
theorem lvl_col {l : List Nat} (h : IsLead l) (ts : Nat) (hts : 1 ≤ ts) : wsLvl (scan l) ts = colN ts l := by
  rw [(scan_I h).col ts hts]
  unfold wsLvl
  rw [wsIl_eq _ ts _ hts (Nat.le_refl _)]

/-! runs -/
def mrun : Nat → List Nat → Nat
  | b, [] => b
  | b, c :: r => if c = 9 then max b (mrun 0 r) else mrun (b + 1) r
theorem foldmax_max : ∀ (l : List Nat) (a : Nat), l.foldl max a = max a (l.foldl max 0)
  | [], a => by simp
  | b :: r, a => by
    rw [List.foldl_cons, List.foldl_cons, foldmax_max r (max a b), foldmax_max r (max 0 b), Nat.zero_max, Nat.max_assoc]
theorem mrun_split : ∀ (l : List Nat) (b : Nat) (p : List Nat) (ps : List (List Nat)), splL 9 l = p :: ps → mrun b l = max (b + p.length) ((ps.map (·.length)).foldl max 0)
  | [], b, p, ps, h => by
    simp only [splL, List.cons.injEq] at h
    rw [← h.1, ← h.2]
    simp [mrun]
  | c :: r, b, p, ps, h => by
    unfold splL at h
    unfold mrun
    cases q : splL 9 r with
    | nil => exact absurd q (splL_ne _ _)
    | cons p' ps' =>
      by_cases hc : c = 9
      · rw [if_pos hc, q] at h
        rw [if_pos hc, mrun_split r 0 p' ps' q]
        simp only [List.cons.injEq] at h
        rw [← h.1, ← h.2, List.map_cons, List.foldl_cons, foldmax_max _ (max 0 p'.length)]
        simp
      · rw [if_neg hc, q] at h
        rw [if_neg hc, mrun_split r (b + 1) p' ps' q]
        simp only [List.cons.injEq] at h
        rw [← h.1, ← h.2, List.length_cons]
        congr 1; omega
theorem max_pred (x b : Nat) : max x (b + 1) - 1 = max (x - 1) b := by omega
theorem long_run : ∀ (l : List Nat) (d : WsD), IsLead l → max ((wscan l d).cnt.length - 1) (wscan l d).b = max (d.cnt.length - 1) (mrun d.b l)
  | [], d, _ => rfl
  | c :: r, d, h => by
    have hr : IsLead r := fun c hc => h c (.tail _ hc)
    unfold wscan mrun
    by_cases h1 : c = 32
    · subst h1
      rw [if_pos rfl, if_neg (by decide), long_run r _ hr]
    · have h2 : c = 9 := (h c (.head _)).resolve_left h1
      rw [if_neg h1, if_pos h2, if_pos h2, long_run r _ hr]
      show max ((bump d.cnt d.b).length - 1) (mrun 0 r) = _
      rw [bump_len, max_pred, Nat.max_assoc]
theorem runs_max (x y : Str) (hx : IsLead x.cps.toList) (hy : IsLead y.cps.toList) : apTop x y = 1 + max (wsLong (scan x.cps.toList)) (wsLong (scan y.cps.toList)) := by
  have one : ∀ z : Str, IsLead z.cps.toList → ((Txt.split z (Str.ofString "\t")).map (·.length)).foldl max 0 = wsLong (scan z.cps.toList) := by
    intro z hz
    have h := split_list z 9
    have h1 := long_run z.cps.toList ⟨[], 0, 0, 0⟩ hz
    have e : (Txt.split z (Str.ofString "\t")).map (·.length) = (splL 9 z.cps.toList).map (·.length) := by
      rw [lit_tab, ← h, List.map_map]
      exact List.map_congr_left fun p _ => by simp [Str.length]
    rw [e]
    unfold wsLong scan
    rw [h1]
    cases q : splL 9 z.cps.toList with
    | nil => exact absurd q (splL_ne _ _)
    | cons p ps =>
      have := mrun_split z.cps.toList 0 p ps q
      show _ = max (0 - 1) (mrun 0 z.cps.toList)
      rw [this, List.map_cons, List.foldl_cons, foldmax_max _ (max 0 p.length)]
      simp
  unfold apTop runsOf
  rw [List.map_append, List.foldl_append, one x hx, foldmax_max, one y hy]

/-! less, more, uneven -/
theorem wsIl_none (cnt : List Nat) (ts : Nat) (h : cnt.length ≤ ts) : wsIl cnt ts = 0 := by
  unfold wsIl
  rw [show cnt.length - ts = 0 by omega]
  rfl
theorem allLess_iff (x y : Str) (hx : IsLead x.cps.toList) (hy : IsLead y.cps.toList) :
    allLess x y = true ↔ ∀ j, j < 1 + max (wsLong (scan x.cps.toList)) (wsLong (scan y.cps.toList)) → wsLvl (scan x.cps.toList) (j + 1) < wsLvl (scan y.cps.toList) (j + 1) := by
  rw [← runs_max x y hx hy]
  unfold allLess apart
  rw [List.isEmpty_iff, List.filter_eq_nil_iff]
  constructor
  · intro h j hj
    have := h _ (List.mem_map.mpr ⟨j, List.mem_range.mpr hj, rfl⟩)
    rw [lvl_col hx _ (by omega), lvl_col hy _ (by omega)]
    rw [colZ_N _ (by omega), colZ_N _ (by omega)] at this
    simp only [decide_eq_true_eq] at this
    omega
  · intro h p hp
    obtain ⟨j, hj, rfl⟩ := List.mem_map.mp hp
    have := h j (List.mem_range.mp hj)
    rw [lvl_col hx _ (by omega), lvl_col hy _ (by omega)] at this
    rw [colZ_N _ (by omega), colZ_N _ (by omega)]
    simp only [decide_eq_true_eq]
    omega
theorem allMore_iff (x y : Str) (hx : IsLead x.cps.toList) (hy : IsLead y.cps.toList) :
    allMore x y = true ↔ ∀ j, j < 1 + max (wsLong (scan x.cps.toList)) (wsLong (scan y.cps.toList)) → wsLvl (scan y.cps.toList) (j + 1) < wsLvl (scan x.cps.toList) (j + 1) := by
  rw [← runs_max x y hx hy]
  unfold allMore apart
  rw [List.isEmpty_iff, List.filter_eq_nil_iff]
  constructor
  · intro h j hj
    have := h _ (List.mem_map.mpr ⟨j, List.mem_range.mpr hj, rfl⟩)
    rw [lvl_col hx _ (by omega), lvl_col hy _ (by omega)]
    rw [colZ_N _ (by omega), colZ_N _ (by omega)] at this
    simp only [decide_eq_true_eq] at this
    omega
  · intro h p hp
    obtain ⟨j, hj, rfl⟩ := List.mem_map.mp hp
    have := h j (List.mem_range.mp hj)
    rw [lvl_col hx _ (by omega), lvl_col hy _ (by omega)] at this
    rw [colZ_N _ (by omega), colZ_N _ (by omega)]
    simp only [decide_eq_true_eq]
    omega
theorem lvl_one {l : List Nat} (h : IsLead l) : wsLvl (scan l) 1 = (scan l).n := by
  rw [lvl_col h 1 (Nat.le_refl _), col_one, (scan_I h).n]
theorem less_eq (x y : Str) (hx : IsLead x.cps.toList) (hy : IsLead y.cps.toList) : allLess x y = wsLess (scan x.cps.toList) (scan y.cps.toList) := by
  rw [Bool.eq_iff_iff, allLess_iff x y hx hy]
  have n1 := lvl_one hx
  have n2 := lvl_one hy
  generalize scan x.cps.toList = d at *
  generalize scan y.cps.toList = e at *
  unfold wsLess
  by_cases hn : d.n ≥ e.n
  · rw [if_pos hn]
    constructor
    · intro h
      have := h 0 (by omega)
      rw [n1, n2] at this
      omega
    · intro h; cases h
  · rw [if_neg hn]
    by_cases hs : d.cnt.length ≤ 1 ∧ e.cnt.length ≤ 1
    · rw [if_pos hs]
      have l1 : ∀ ts, 1 ≤ ts → wsLvl d ts = d.b + ts * d.nt := fun ts h => by unfold wsLvl; rw [wsIl_none _ _ (by omega), Nat.zero_add]
      have l2 : ∀ ts, 1 ≤ ts → wsLvl e ts = e.b + ts * e.nt := fun ts h => by unfold wsLvl; rw [wsIl_none _ _ (by omega), Nat.zero_add]
      rw [l1 1 (Nat.le_refl _), Nat.one_mul] at n1
      rw [l2 1 (Nat.le_refl _), Nat.one_mul] at n2
      have wl : ∀ d : WsD, d.cnt.length ≤ 1 → wsLong d = d.b := fun d h => by
        unfold wsLong
        rw [Nat.sub_eq_zero_of_le h, Nat.zero_max]
      have hN : max (wsLong d) (wsLong e) = max d.b e.b := by rw [wl d hs.1, wl e hs.2]
      rw [hN, decide_eq_true_eq]
      constructor
      · intro h
        refine Classical.byContradiction fun q => ?_
        have h1 := h (max d.b e.b) (by omega)
        rw [l1 _ (by omega), l2 _ (by omega)] at h1
        have h2 : (max d.b e.b + 1) * (e.nt + 1) ≤ (max d.b e.b + 1) * d.nt := Nat.mul_le_mul_left _ (by omega)
        rw [Nat.mul_add, Nat.mul_one] at h2
        omega
      · intro h j hj
        rw [l1 _ (by omega), l2 _ (by omega)]
        have h2 : j * d.nt ≤ j * e.nt := Nat.mul_le_mul_left _ h
        rw [Nat.add_mul, Nat.add_mul]
        omega
    · rw [if_neg hs, List.all_eq_true]
      constructor
      · intro h j hj
        have := h (j + 1) (by have := List.mem_range.mp hj; omega)
        rw [decide_eq_true_eq, Nat.add_comm 2 j]
        exact this
      · intro h j hj
        cases j with
        | zero => rw [n1, n2]; omega
        | succ j =>
          have := of_decide_eq_true (h j (List.mem_range.mpr (by omega)))
          rw [Nat.add_comm 2 j] at this
          exact this
theorem more_eq (x y : Str) (hx : IsLead x.cps.toList) (hy : IsLead y.cps.toList) : allMore x y = wsLess (scan y.cps.toList) (scan x.cps.toList) := by
  rw [← less_eq y x hy hx, Bool.eq_iff_iff, allMore_iff x y hx hy, allLess_iff y x hy hx, Nat.max_comm]
theorem unev_eq (x y : Str) (hx : IsLead x.cps.toList) (hy : IsLead y.cps.toList) : unev x y = wsWit (scan x.cps.toList) (scan y.cps.toList) := by
  unfold unev apart wsWit
  rw [runs_max x y hx hy, Nat.add_comm 1, List.filter_map, List.filter_map, List.map_map]
  have : ((fun n : Nat × Int => decide (n.2 ≠ 0)) ∘ fun j : Nat => (j + 1, colZ ((j + 1 : Nat) : Int) x.cps.toList - colZ ((j + 1 : Nat) : Int) y.cps.toList)) =
      ((fun ts => decide (wsLvl (scan x.cps.toList) ts ≠ wsLvl (scan y.cps.toList) ts)) ∘ fun j : Nat => j + 1) := by
    funext j
    show decide (colZ ((j + 1 : Nat) : Int) x.cps.toList - colZ ((j + 1 : Nat) : Int) y.cps.toList ≠ 0) = decide (wsLvl (scan x.cps.toList) (j + 1) ≠ wsLvl (scan y.cps.toList) (j + 1))
    rw [lvl_col hx _ (by omega), lvl_col hy _ (by omega), colZ_N _ (by omega), colZ_N _ (by omega)]
    apply decide_eq_decide.mpr
    omega
  rw [this]
  rfl

theorem norm_eq {l r : List Nat} (hl : IsLead l) (hr : IsLead r) (h : ∀ j, j < max (wsLong (scan l)) (wsLong (scan r)) + 1 → wsLvl (scan l) (j + 1) = wsLvl (scan r) (j + 1)) : (scan l).cnt = (scan r).cnt ∧ (scan l).b = (scan r).b := by
  have I1 := scan_I hl
  have I2 := scan_I hr
  generalize scan l = d at *
  generalize scan r = e at *
  have hb1 : d.b ≤ max (wsLong d) (wsLong e) := by unfold wsLong; omega
  have hb2 : e.b ≤ max (wsLong d) (wsLong e) := by unfold wsLong; omega
  have hc1 : d.cnt.length ≤ max (wsLong d) (wsLong e) + 1 := by unfold wsLong; omega
  have hc2 : e.cnt.length ≤ max (wsLong d) (wsLong e) + 1 := by unfold wsLong; omega
  generalize max (wsLong d) (wsLong e) = N at *
  have top := h N (by omega)
  unfold wsLvl at top
  rw [wsIl_none _ _ hc1, wsIl_none _ _ hc2, Nat.zero_add, Nat.zero_add] at top
  have eb : d.b = e.b := by
    have := congrArg (· % (N + 1)) top
    simp only [Nat.add_mul_mod_self_left] at this
    rwa [Nat.mod_eq_of_lt (by omega), Nat.mod_eq_of_lt (by omega)] at this
  have ent : d.nt = e.nt := by
    rw [eb] at top
    have top' : (N + 1) * d.nt = (N + 1) * e.nt := by omega
    exact Nat.eq_of_mul_eq_mul_left (Nat.succ_pos N) top'
  have eil : ∀ t, 1 ≤ t → t < N + 1 → sumTo (N + 1) (fun i => i / t * d.cnt.getD i 0) = sumTo (N + 1) (fun i => i / t * e.cnt.getD i 0) := by
    intro t h1 h2
    have := h (t - 1) (by omega)
    rw [show t - 1 + 1 = t by omega] at this
    unfold wsLvl at this
    rw [eb, ent] at this
    have h3 : t * (wsIl d.cnt t + e.nt) = t * (wsIl e.cnt t + e.nt) := by omega
    have h4 := Nat.eq_of_mul_eq_mul_left (show 0 < t by omega) h3
    rw [← wsIl_eq _ t _ h1 hc1, ← wsIl_eq _ t _ h1 hc2]
    omega
  have down : ∀ k, k ≤ N + 1 → ∀ i, N + 1 - k ≤ i → d.cnt.getD i 0 = e.cnt.getD i 0 := by
    intro k
    induction k with
    | zero => intro _ i hi; rw [getD_ge _ _ (by omega), getD_ge _ _ (by omega)]
    | succ k ih =>
      intro hk i hi
      have ih := ih (by omega)
      by_cases q : N + 1 - k ≤ i
      · exact ih i q
      · obtain ⟨t, ht⟩ : ∃ t, t = N + 1 - (k + 1) := ⟨_, rfl⟩
        have hit : i = t := by omega
        subst hit
        by_cases h0 : i = 0
        · subst h0
          have e1 := I1.nt
          have e2 := I2.nt
          rw [← sumTo_ge (fun _ => 1) d.cnt (N + 1) hc1] at e1
          rw [← sumTo_ge (fun _ => 1) e.cnt (N + 1) hc2] at e2
          have := sumTo_one (f := fun _ => 1) (c := fun i => d.cnt.getD i 0) (d := fun i => e.cnt.getD i 0) 0 (N + 1) (fun j hj hne => by
            show 1 * d.cnt.getD j 0 = 1 * e.cnt.getD j 0
            rw [ih j (by omega)]) (by omega) (by rw [← e1, ← e2, ent])
          simpa using this
        · have := sumTo_one (f := fun j => j / i) (c := fun i => d.cnt.getD i 0) (d := fun i => e.cnt.getD i 0) i (N + 1) (fun j hj hne => by
            show j / i * d.cnt.getD j 0 = j / i * e.cnt.getD j 0
            by_cases hji : j < i
            · rw [Nat.div_eq_of_lt hji, Nat.zero_mul, Nat.zero_mul]
            · rw [ih j (by omega)]) (by omega) (eil i (by omega) (by omega))
          simp only [Nat.div_self (show 0 < i by omega), Nat.one_mul] at this
          exact this
  have all : ∀ i, d.cnt.getD i 0 = e.cnt.getD i 0 := fun i => down (N + 1) (Nat.le_refl _) i (by omega)
  have elen : d.cnt.length = e.cnt.length := by
    rcases Nat.lt_trichotomy d.cnt.length e.cnt.length with q | q | q
    · have := I2.last (by intro z; rw [z] at q; simp at q)
      rw [← all, getD_ge _ _ (by omega)] at this
      exact absurd rfl this
    · exact q
    · have := I1.last (by intro z; rw [z] at q; simp at q)
      rw [all, getD_ge _ _ (by omega)] at this
      exact absurd rfl this
  refine ⟨List.ext_getElem elen fun i h1 h2 => ?_, eb⟩
  have := all i
  rw [List.getD_eq_getElem?_getD, List.getD_eq_getElem?_getD, List.getElem?_eq_getElem h1, List.getElem?_eq_getElem h2] at this
  exact this
theorem even_iff (x y : Str) (hx : IsLead x.cps.toList) (hy : IsLead y.cps.toList) : wsEq (scan x.cps.toList) (scan y.cps.toList) = true ↔ unev x y = [] := by
  rw [unev_eq x y hx hy]
  unfold wsEq wsWit
  rw [decide_eq_true_eq, List.filter_eq_nil_iff]
  constructor
  · rintro ⟨h1, h2⟩ ts _
    have e1 := (scan_I hx).nt
    have e2 := (scan_I hy).nt
    have : wsLvl (scan x.cps.toList) ts = wsLvl (scan y.cps.toList) ts := by
      unfold wsLvl
      rw [e1, e2, h1, h2]
    simp [this]
  · intro h
    refine norm_eq hx hy fun j hj => ?_
    have := h (j + 1) (List.mem_map.mpr ⟨j, List.mem_range.mpr hj, rfl⟩)
    simpa using this

/-! the walk along the lines -/
def scanS (x : Str) : WsD := scan x.cps.toList
theorem leadS_list (x : Str) : (leadS x).cps.toList = x.cps.toList.take (leadLen x.cps.toList) := by
  unfold leadS
  have h := leadLen_le x.cps.toList
  rw [slice_is, StrLaws.sliceText_to ⟨Int.natCast_nonneg _, by omega⟩]
  simp
theorem leadS_lead (x : Str) : IsLead (leadS x).cps.toList := by rw [leadS_list]; exact take_lead _
theorem scan_leadS (x : Str) : scanS (leadS x) = scan x.cps.toList := by
  unfold scanS scan
  rw [leadS_list, wscan_take]
theorem lead_nil : IsLead (Str.ofString "").cps.toList := by
  have : (Str.ofString "").cps.toList = [] := by decide +kernel
  rw [this]
  exact nofun
theorem pop_eq (y : Str) (hy : IsLead y.cps.toList) : ∀ st : List Str, (∀ z ∈ st, IsLead z.cps.toList) → st.getLast? = some (Str.ofString "") → popW (scanS y) (st.map scanS) = (popS y st).map scanS
  | [], _, h => by cases h
  | [t], hl, h => by
    have : t = Str.ofString "" := by simpa using h
    subst this
    unfold popS
    rw [allMore_bot]
    rfl
  | t :: u :: r, hl, h => by
    rw [List.map_cons, List.map_cons]
    unfold popW popS
    rw [more_eq t y (hl t (.head _)) hy]
    show (if wsLess (scanS y) (scanS t) then _ else _) = List.map scanS (if wsLess (scanS y) (scanS t) then _ else _)
    by_cases q : wsLess (scanS y) (scanS t) = true
    · rw [if_pos q, if_pos q]
      exact pop_eq y hy (u :: r) (fun z hz => hl z (.tail _ hz)) (by simpa using h)
    · rw [if_neg q, if_neg q]
      rfl
theorem lit_words : Str.ofString "indent not equal e.g. " ++ Str.ofString "at tab size" = Str.ofString "indent not equal e.g. at tab size" := by decide +kernel
theorem lit_ss : Str.ofString "s" ++ Str.ofString " " = Str.ofString "s " := by decide +kernel
theorem str_app_assoc (a b c : Str) : a ++ b ++ c = a ++ (b ++ c) := by
  have e : ∀ a b : Str, (a ++ b).cps.toList = a.cps.toList ++ b.cps.toList := app_list
  have : (a ++ b ++ c).cps.toList = (a ++ (b ++ c)).cps.toList := by rw [e, e, e, e, List.append_assoc]
  generalize a ++ b ++ c = u at *
  generalize a ++ (b ++ c) = v at *
  cases u; cases v; simp at this; simp [this]
theorem words_eq (ns : List Nat) : unevenS ns = uneS ns := by
  unfold unevenS fmtS headS uneS
  by_cases h : ns.length > 1
  · rw [if_pos h, if_pos h, ← lit_words, ← lit_ss]
    simp only [str_app_assoc]
  · rw [if_neg h, if_neg h, ← lit_words]
    simp only [str_app_assoc]
def endD : Option (Nat × Str × Str) → List Dat
  | none => []
  | some (i, y, z) => [.tuple [.int ((i : Int) + 1), .str y, .str z]]
theorem go_eq : ∀ (ls : List Str) (k : Nat) (st : List Str), (∀ z ∈ st, IsLead z.cps.toList) → st.getLast? = some (Str.ofString "") → (olGo ls k (st.map scanS)).1 ++ endD (olGo ls k (st.map scanS)).2 = duGo ls k st
  | [], k, st, _, _ => rfl
  | x :: r, k, st, hl, h => by
    obtain _ | ⟨d, st⟩ := st
    · cases h
    have hy := leadS_lead x
    have hsl : Txt.slice x (some (scan x.cps.toList).n) none = tailS x := by
      unfold tailS; rw [scan_n]
    have e1 : allLess d (leadS x) = wsLess (scanS d) (scan x.cps.toList) := (less_eq d (leadS x) (hl d (.head _)) hy).trans (by
      show wsLess (scanS d) (scanS (leadS x)) = _
      rw [scan_leadS])
    unfold olGo duGo
    rw [List.map_cons, List.headD_cons, List.headD_cons, ← List.map_cons, hsl, e1]
    by_cases q : wsLess (scanS d) (scan x.cps.toList) = true
    · rw [if_pos q, if_pos q]
      have ih := go_eq r (k + 1) (leadS x :: d :: st) (fun z hz => by
        rcases List.mem_cons.mp hz with rfl | hz
        · exact hy
        · exact hl z hz) (by simpa using h)
      rw [List.map_cons, scan_leadS] at ih
      dsimp only
      rw [List.length_map, List.cons_append, ih]
    · rw [if_neg q, if_neg q, ← scan_leadS, pop_eq _ hy _ hl h]
      have hpl : ∀ z ∈ popS (leadS x) (d :: st), IsLead z.cps.toList := fun z hz => hl z (popS_mem hz)
      have hpn : popS (leadS x) (d :: st) ≠ [] := by
        intro e
        have h1 := pop_eq (leadS x) hy _ hl h
        rw [e] at h1
        exact popW_ne (scanS (leadS x)) ((d :: st).map scanS) (by simp) h1
      have hpt : (popS (leadS x) (d :: st)).getLast? = some (Str.ofString "") := by rw [popS_last hpn, h]
      generalize popS (leadS x) (d :: st) = sp at *
      obtain _ | ⟨u, sp⟩ := sp
      · exact absurd rfl hpn
      have e2 : wsEq (scanS u) (scanS (leadS x)) = true ↔ _ := even_iff u (leadS x) (hpl u (.head _)) hy
      have e3 : _ = wsWit (scanS u) (scanS (leadS x)) := unev_eq u (leadS x) (hpl u (.head _)) hy
      rw [List.map_cons, List.headD_cons, List.headD_cons, ← List.map_cons]
      by_cases q2 : unev u (leadS x) = []
      · rw [if_pos (e2.mpr q2), if_pos q2]
        have ih := go_eq r (k + 1) (u :: sp) hpl hpt
        dsimp only
        rw [List.length_map, List.cons_append, ih]
      · rw [if_neg (fun q => q2 (e2.mp q)), if_neg q2]
        dsimp only
        rw [words_eq, e3]
        rfl
/-- (C) -/
theorem outline_due (x : Str) : outD x = dueD x := by
  have h := go_eq (linesOf x) 0 [Str.ofString ""] (fun z hz => by rw [List.mem_singleton.mp hz]; exact lead_nil) rfl
  have e : [Str.ofString ""].map scanS = [scan []] := by
    show [scan (Str.ofString "").cps.toList] = _
    rw [show (Str.ofString "").cps.toList = [] from by decide +kernel]
  rw [e] at h
  unfold outD dueD ol
  rw [show ([""] : List Str) = [Str.ofString ""] from rfl, ← h]
  rfl
end
section
open PySem PySem.W PySem.Calls PyProof.Rows PySem.Spec PyProof.V
set_option maxRecDepth 100000
set_option maxHeartbeats 4000000
set_option linter.unusedVariables false

/-! ### the two pages -/
def carrS (x y : Str) (b : Bool) : Str := ⟨(carr x.cps.toList b y.cps.toList).toArray⟩
theorem plain_one (n : Int) (b : Bool) (x : Str) : outD (readS b (escS (handPs n) x)) = dueD (carrS (keptS n) x b) := by
  rw [read_write, outline_due]; rfl
theorem plain_two (n m : Int) (a b : Bool) (x : Str) : outD (readS b (readS a (escS (handPs m) (escS (handPs n) x)))) = dueD (carrS (keptS n) (carrS (keptS n ++ keptS m) x a) b) := by
  rw [read_twice, read_write, outline_due]; rfl

/-! ### lengths -/
theorem carrR_len (safe : List Nat) (ins : Bool) : ∀ (x : List Nat) (beh : Bool), (carrR safe ins beh x).length ≤ x.length
  | [], _ => by simp [carrR]
  | c :: r, beh => by
    unfold carrR
    have ih := carrR_len safe ins r
    split
    · have := ih false; simp; omega
    · split
      · have := ih false; simp; omega
      · have := ih (c == 13)
        rw [List.length_append]
        split <;> simp <;> omega
theorem carrS_len (x y : Str) (b : Bool) : (carrS x y b).length ≤ y.length := by
  show (carr x.cps.toList b y.cps.toList).toArray.size ≤ y.cps.size
  rw [carr_eq, List.size_toArray]
  have := carrR_len x.cps.toList b y.cps.toList false
  simpa using this
theorem escH_len (n : Int) (x : Str) : (escS (handPs n) x).length ≤ 6 * x.length := by
  unfold handPs
  split
  · exact escS_len _ x (by decide +kernel) (by decide +kernel)
  · split
    · exact escS_len _ x (by decide +kernel) (by decide +kernel)
    · split
      · exact escS_len _ x (by decide +kernel) (by decide +kernel)
      · split
        · exact escS_len _ x (by decide +kernel) (by decide +kernel)
        · exact escS_len _ x (by decide +kernel) (by decide +kernel)

/-! ### signs that are code points -/
def okL (x : List Nat) : Prop := ∀ c ∈ x, c < 1114112
def okS (x : Str) : Prop := okL x.cps.toList
theorem okS_of {x : Str} (h : PyData.strOk x = true) : okS x := by
  intro c hc
  unfold PyData.strOk at h
  rw [← Array.all_toList] at h
  exact of_decide_eq_true (List.all_eq_true.mp h c hc)
theorem okS_to {x : Str} (h : okS x) : PyData.strOk x = true := by
  unfold PyData.strOk
  rw [← Array.all_toList]
  exact List.all_eq_true.mpr fun c hc => decide_eq_true (h c hc)
theorem okS.app {x y : Str} (h : okS x) (h' : okS y) : okS (x ++ y) := by
  intro c hc
  rw [app_list] at hc
  rcases List.mem_append.mp hc with q | q
  · exact h c q
  · exact h' c q
theorem okL_carrR (safe : List Nat) (ins : Bool) : ∀ (x : List Nat) (beh : Bool), okL x → okL (carrR safe ins beh x)
  | [], _, _ => by intro c hc; simp [carrR] at hc
  | a :: r, beh, h => by
    have hr : okL r := fun c hc => h c (.tail _ hc)
    unfold carrR
    intro c hc
    split at hc
    · rcases List.mem_cons.mp hc with rfl | hc
      · exact h _ (.head _)
      · exact okL_carrR safe ins r _ hr c hc
    · split at hc
      · exact okL_carrR safe ins r _ hr c hc
      · rcases List.mem_append.mp hc with hc | hc
        · split at hc
          · rw [List.mem_singleton.mp hc]
            split
            · decide
            · split <;> decide
          · cases hc
        · exact okL_carrR safe ins r _ hr c hc
theorem okS_carrS (x y : Str) (b : Bool) (h : okS y) : okS (carrS x y b) := by
  unfold okS carrS
  rw [carr_eq]
  exact okL_carrR _ _ _ _ h
theorem splL_mem (c : Nat) : ∀ (x : List Nat) (p : List Nat), p ∈ splL c x → ∀ a ∈ p, a ∈ x
  | [], p, hp, a, ha => by
    simp only [splL, List.mem_singleton] at hp
    rw [hp] at ha; cases ha
  | b :: r, p, hp, a, ha => by
    unfold splL at hp
    split at hp
    · rcases List.mem_cons.mp hp with rfl | hp
      · cases ha
      · exact .tail _ (splL_mem c r p hp a ha)
    · cases q : splL c r with
      | nil => exact absurd q (splL_ne _ _)
      | cons p' ps =>
        rw [q] at hp
        have ih := splL_mem c r
        rw [q] at ih
        rcases List.mem_cons.mp hp with rfl | hp
        · rcases List.mem_cons.mp ha with rfl | ha
          · exact .head _
          · exact .tail _ (ih p' (.head _) a ha)
        · exact .tail _ (ih p (.tail _ hp) a ha)
theorem okS_lines {x : Str} (h : okS x) : ∀ z ∈ linesOf x, okS z := by
  intro z hz c hc
  have e := split_list x 10
  have hm : z.cps.toList ∈ splL 10 x.cps.toList := by
    rw [← e, ← lit_nl]
    exact List.mem_map.mpr ⟨z, hz, rfl⟩
  exact h c (splL_mem 10 _ _ hm c hc)
theorem okS_tail {x : Str} (h : okS x) : okS (tailS x) := by
  unfold tailS
  have hl := leadLen_le x.cps.toList
  intro c hc
  rw [slice_is, StrLaws.sliceText_from ⟨Int.natCast_nonneg _, by omega⟩] at hc
  have h2 := List.mem_of_mem_take (by simpa using hc : c ∈ List.take _ (List.drop _ x.cps.toList))
  exact h c (List.mem_of_mem_drop h2)
theorem okS_join (sep : Str) (hs : okS sep) : ∀ ys : List Str, (∀ y ∈ ys, okS y) → okS (Str.join sep ys)
  | [], _ => by intro c hc; cases hc
  | [y], h => h y (.head _)
  | y :: z :: r, h => by
    show okS (y ++ sep ++ Str.join sep (z :: r))
    exact ((h y (.head _)).app hs).app (okS_join sep hs (z :: r) fun q hq => h q (.tail _ hq))
theorem okS_une (ns : List Nat) : okS (uneS ns) := by
  unfold uneS
  rw [txt_join]
  refine (okS.app (okS.app (okS_of (by decide +kernel)) ?_) (okS_join _ (okS_of (by decide +kernel)) _ fun y hy => ?_))
  · split
    · exact okS_of (by decide +kernel)
    · exact okS_of (by decide +kernel)
  · obtain ⟨n, _, rfl⟩ := List.mem_map.mp hy
    exact okS_of (numS_ok n)
theorem ok_row (n : Nat) (x : Str) (h : okS x) : kqdOk 8 (rowD n x) = true := by
  unfold rowD
  simp only [kqdOk, List.all_cons, List.all_nil, Bool.and_true, Bool.true_and]
  exact okS_to h
theorem ok_go : ∀ (ls : List Str) (k : Nat) (st : List Str), (∀ z ∈ ls, okS z) → (duGo ls k st).all (kqdOk 8) = true
  | [], _, _, _ => rfl
  | x :: r, k, st, h => by
    have hr : ∀ z ∈ r, okS z := fun z hz => h z (.tail _ hz)
    have hx := h x (.head _)
    unfold duGo
    split
    · rw [List.all_cons, ok_row _ _ (okS_tail hx), ok_go r _ _ hr]; rfl
    · split
      · rw [List.all_cons, ok_row _ _ (okS_tail hx), ok_go r _ _ hr]; rfl
      · simp only [kqdOk, List.all_cons, List.all_nil, Bool.and_true, Bool.true_and]
        rw [okS_to (okS_une _), okS_to hx]; rfl
theorem ok_due (x : Str) (h : okS x) : kqdOk 9 (.list (dueD x)) = true := by
  show (duGo (linesOf x) 0 [""]).all (kqdOk 8) = true
  exact ok_go _ _ _ (okS_lines h)
end
section
open PySem PySem.W PySem.Calls PyProof.Rows PySem.Spec PyProof.V PyProof.Rows.LCg
set_option maxRecDepth 100000
set_option maxHeartbeats 4000000
set_option linter.unusedVariables false

/-! ### the law -/
theorem sum_bd : ∀ (ns : List Int) (k : Int), (∀ n ∈ ns, 0 ≤ n ∧ n ≤ k) → 0 ≤ k → 0 ≤ ns.sum ∧ ns.sum ≤ k * ns.length
  | [], k, _, _ => by simp
  | a :: r, k, h, hk => by
    have h1 := h a (.head _)
    have h2 := sum_bd r k (fun n hn => h n (.tail _ hn)) hk
    rw [List.sum_cons, List.length_cons, Int.natCast_add, Int.mul_add]
    omega
theorem ints_at : ∀ {vs : List Value} {ns : List Int}, IntsAre vs ns → ∀ (i : Nat) (v : Value), vs[i]? = some v → ∃ n t, v = .int n t ∧ n ∈ ns
  | _, _, .nil, i, v, e => by simp at e
  | _, _, .cons n t h, i, v, e => by
    cases i with
    | zero => simp at e; subst e; exact ⟨n, t, rfl, .head _⟩
    | succ i =>
      obtain ⟨n', t', e1, e2⟩ := ints_at h i v (by simpa using e)
      exact ⟨n', t', e1, .tail _ e2⟩

section
variable {w : World} {A : Around} {E : Value → Shared → Prop} {s : Shared} {h₀ : Heap} {os : OsG} {L : Addr} {vs : List Str} {l : List (Option Value)} {led : List (Addr × Obj)} {env : Env}

theorem itemStr {value slice : Expr} {D : Addr} {xs : List Value} {k : Int} {u : Tok} {Q : Value → Shared → Prop} (hl : s.heap.get? D = some (lstO xs)) (hall : ∀ v ∈ xs, ∃ y t, v = .str y t ∧ y.length ≤ 10 ∧ okS y)
    (hs : subscripted slice false (.ref D) (.int k u) = operate [.ref D, .int k u] (getItem (.ref D) (.int k u))) (h0 : 0 ≤ k) (h1 : k < xs.length) (hfit : k < 2 ^ 63)
    (h : ∀ y t, y.length ≤ 10 → okS y → Q (.str y t) s) : wpAny (model pw w) A (subscriptTail value slice (.ref D) (.int k u)) Q E s := by
  have hk : k.toNat < xs.length := by omega
  obtain ⟨y, t, e, hy, hok⟩ := hall xs[k.toNat] (List.getElem_mem hk)
  have hl' : s.heap.IsList D xs.toArray := isL hl
  refine tail_any hl'.typeIs slot_list_getitem.lookup (wpAny_getItem_list hl' h0 hfit (x := .str y t) ?_ (h y t hy hok)) hs
  rw [List.getElem?_toArray, List.getElem?_eq_getElem hk, e]
def Strs (xs : List Value) : Prop := ∀ v ∈ xs, ∃ y t, v = .str y t ∧ y.length ≤ 10 ∧ okS y
theorem Strs.nil : Strs [] := nofun
theorem Strs.cons {y : Str} {t : Tok} {r : List Value} (h1 : y.length ≤ 10) (h2 : PyData.strOk y = true) (h : Strs r) : Strs (.str y t :: r) := fun v hv => by
  rcases List.mem_cons.mp hv with rfl | hv
  · exact ⟨y, t, rfl, h1, okS_of h2⟩
  · exact h v hv
theorem newLS {M : Model} {xs : List Value} {Q : Value → Shared → Prop} (S : St h₀ os L vs l led s) (hall : Strs xs) (hsz : xs.length ≤ sizeLine) (h : ∀ D ys s', Strs ys → ys.length = xs.length → St h₀ os L vs l ((D, lstO ys) :: led) s' → Q (.ref D) s') : wpAny M A (newList xs) Q E s :=
  newL S hsz fun D s' S' => h D xs s' hall rfl S'
theorem newLI {M : Model} {xs : List Value} {ns : List Int} {Q : Value → Shared → Prop} (S : St h₀ os L vs l led s) (hi : IntsAre xs ns) (hsz : xs.length ≤ sizeLine) (h : ∀ D ys s', IntsAre ys ns → St h₀ os L vs l ((D, lstO ys) :: led) s' → Q (.ref D) s') : wpAny M A (newList xs) Q E s :=
  newL S hsz fun D s' S' => h D xs s' hi S'
theorem sumI {D : Addr} {xs : List Value} {k : Nat} {ns : List Int} {Q : Value → Shared → Prop} (hh : A.handled = none) (S : St h₀ os L vs l led s) (hm : (D, lsO xs k) ∈ led) (hi : IntsAre xs ns)
    (h : ∀ t s', St h₀ os L vs l led s' → Q (.int ns.sum t) s') : wpAny (model pw w) A (call (.builtin "sum") [.ref D]) Q E s :=
  wpAny_with_toks (n := s.toks) (Nat.le_refl _) (sumK hh S.F S.N (isL (S.N _ hm).1) hi fun h' tk t' F N hk => h t' _ ⟨F, N, S.nd, S.gens, S.os, Nat.lt_of_lt_of_le S.tok hk⟩)

theorem c_lawBody {a : Addr} {xs : List Value} {ns : List Int} {ps : Tab} (G : Gnd w h₀) (C : GndC h₀)
    (S : St h₀ os L vs_law [some (.ref a), none, none, none, none, none, none, none, none, none, none, none, none, none] ((130, tabO ps) :: led) s) (O : AOk A 12 400)
    (hfr : A.frames = some [callEnv (fdOf w.params 241) L 241]) (hl : h₀.IsList a xs.toArray) (hi : IntsAre xs ns) (hns : ns.length ≤ 63) :
    wpAny (model pw w) A (execs (bodyOf (fdOf w.params 241)) (callEnv (fdOf w.params 241) L 241))
      (fun fl s' => fl = .ret (.bool true) ∧ ∃ gs vs' l' led' ps', St h₀ (os.1, gs) L vs' l' ((130, tabO ps') :: led') s') (fun _ _ => False) s := by
  have V0 := sl_law_script w.params L
  have V1 := sl_law_draws w.params L
  have V2 := sl_law_total w.params L
  have V3 := sl_law_page w.params L
  have V4 := sl_law_end w.params L
  have V5 := sl_law_x w.params L
  have V6 := sl_law_hand w.params L
  have V7 := sl_law_outer w.params L
  have V8 := sl_law_place w.params L
  have V9 := sl_law_around w.params L
  have V10 := sl_law_written w.params L
  have V11 := sl_law_kept w.params L
  have V12 := sl_law_twice w.params L
  have V13 := sl_law_due w.params L
  have hk' : (callEnv (fdOf w.params 241) L 241).scope.kind ≠ .module := by rw [show (callEnv (fdOf w.params 241) L 241).scope.kind = .function from (fn_law w.params .none).kind]; decide
  have hl3 : xs.length = ns.length := hi.length
  refine absQ ?_
  intro QF EF hQF _
  refine seqI ?_
  -- draws
  refine exJ (fun s => ∃ R ys kr ds, IntsAre ys ds ∧ (∀ n ∈ ds, 0 ≤ n ∧ n ≤ 999999) ∧ ds.length ≤ 60 ∧
    St h₀ os L vs_law [some (.ref a), some (.ref R), none, none, none, none, none, none, none, none, none, none, none, none] ((R, lsO ys kr) :: (130, tabO ps) :: led) s) ?_ ?_
  · refine compFromU (by with_unfolding_all rfl) (by with_unfolding_all rfl) (by rfl) (by decide +kernel) (by intro _; rfl) ?_
    repeat tb_start
    have hla : s.heap.IsList a xs.toArray := hl.at fun o e => S.F.keep _ o e
    refine lTail S hla .none (.int _ _) (by with_unfolding_all rfl) (by intro _; with_unfolding_all rfl) (Nat.le_trans (by simp; omega) (show 8000000 ≤ sizeLine by decide +kernel)) ?_
    clear S; intro D s S
    have hi2 := slice_ints_uptoW hi (y := 60) (by decide)
    generalize hz : (slicePick xs.toArray none (some 60) none).toList = zs at hi2
    have hz' : slicePick xs.toArray none (some 60) none = zs.toArray := by rw [← hz]
    rw [hz'] at S
    have h60 : (ns.take (60 : Int).toNat).length ≤ 60 := by rw [List.length_take]; show min 60 _ ≤ 60; omega
    generalize ns.take (60 : Int).toNat = n60 at hi2 h60
    have hzl : zs.length = n60.length := hi2.length
    refine compLU (led₀ := []) (a := D) (xs := zs) (kx := 0) (fun i ys led' => led' = [] ∧ ∃ ds, IntsAre ys ds ∧ (∀ n ∈ ds, 0 ≤ n ∧ n ≤ 999999) ∧ ds.length ≤ i) O.hd (by decide +kernel) (by rfl) S (.head _) ⟨rfl, [], .nil, nofun, Nat.le_refl _⟩ (by omega)
      (fun i ys led' hJ => by obtain ⟨_, ds, h1, _, h3⟩ := hJ; have := h1.length; omega) ?_ ?_
    · rintro i v led' ys k C' Dr oC m I oI s E' hv ⟨rfl, ds, hd1, hd2, hd3⟩ hoC S
      obtain ⟨n, t, rfl, _⟩ := ints_at hi2 i v hv
      repeat tb_start
      refine stC S rfl hoC (by with_unfolding_all rfl) (by with_unfolding_all rfl) ?_
      clear S; intro oC' s hoC' S
      refine testsNil ?_
      rw [if_pos rfl]
      repeat tb_start
      refine nmC S (.head _) rfl hoC' (by with_unfolding_all rfl) (by with_unfolding_all rfl) (v := .int n t) (by simp) (by decide +kernel) ?_
      repeat tb_start
      refine modI S (by decide) ?_
      clear S; intro t2 s S
      have em : n.fmod 1000000 = n % 1000000 := Int.fmod_eq_emod_of_nonneg _ (by decide)
      refine ⟨[], _, _, hoC', ⟨rfl, ds ++ [n.fmod 1000000], hd1.append (.cons _ _ .nil), fun z hz => ?_, by simp; omega⟩, S⟩
      rcases List.mem_append.mp hz with hz | hz
      · exact hd2 z hz
      · rw [List.mem_singleton.mp hz, em]; omega
    · rintro C' oC m R ys kr led' s ⟨rfl, ds, hd1, hd2, hd3⟩ ho S
      refine endUse ho V1 (by simp) S fun s' S' => ⟨rfl, R, ys, kr, ds, hd1, hd2, by omega, ?_⟩
      exact (S'.perm (led' := (D, lstO zs) :: (R, lsO ys kr) :: (130, tabO ps) :: led) (.swap _ _ _)).drop (List.sublist_cons_self _ _)
  clear S
  rintro s ⟨R, ys, kr, ds, hds, hdb, hdl, S⟩
  -- total
  refine seqI ?_
  repeat tb_start
  refine sumI O.hd S (.head _) hds ?_
  clear S; intro t s S
  have hsum := sum_bd ds 999999 hdb (by decide)
  repeat tb_start
  have htot : 0 ≤ 55 + ds.sum ∧ 55 + ds.sum ≤ 100000000 := by omega
  generalize 55 + ds.sum = tot at S htot
  -- the page
  refine wpFor (by intro _; rfl) ?_
  repeat tb_start
  have hRl : s.heap.IsList R ys.toArray := isL (S.N (R, lsO ys kr) (.head _)).1
  have hyl : ys.length = ds.length := hds.length
  refine lTail S hRl .none (.int _ _) (by with_unfolding_all rfl) (by intro _; with_unfolding_all rfl) (Nat.le_trans (by simp; omega) (show 8000000 ≤ sizeLine by decide +kernel)) ?_
  clear S; intro D1 s S
  have hi3 := slice_ints_uptoW hds (y := 3) (by decide)
  generalize hz : (slicePick ys.toArray none (some 3) none).toList = z3 at hi3
  have hz' : slicePick ys.toArray none (some 3) none = z3.toArray := by rw [← hz]
  rw [hz'] at S
  have h3l : (ds.take (3 : Int).toNat).length ≤ 3 := by rw [List.length_take]; show min 3 _ ≤ 3; omega
  have h3b : ∀ n ∈ ds.take (3 : Int).toNat, 0 ≤ n ∧ n ≤ 999999 := fun n hn => hdb n (List.mem_of_mem_take hn)
  generalize ds.take (3 : Int).toNat = d3 at hi3 h3l h3b
  have hz3 : z3.length = d3.length := hi3.length
  repeat tb_start
  refine newLI S (.cons _ _ (.cons _ _ (.cons _ _ .nil))) (show 3 ≤ sizeLine by decide +kernel) ?_
  clear S; intro D2 l2 s hi2 S
  have hl2 : l2.length = 3 := hi2.length
  refine addL S (isL (S.N (D1, lstO z3) (.tail _ (.head _))).1) (isL (S.N (D2, lstO l2) (.head _)).1) (Nat.le_trans (by omega) (show 8000000 ≤ sizeLine by decide +kernel)) ?_
  clear S; intro D3 s S
  have hi4 := hi3.append hi2
  have h4b : ∀ n ∈ d3 ++ [58, 132, 43], 0 ≤ n ∧ n ≤ 999999 := by
    intro n hn
    rcases List.mem_append.mp hn with hn | hn
    · exact h3b n hn
    · simp only [List.mem_cons, List.not_mem_nil, or_false] at hn
      rcases hn with rfl | rfl | rfl <;> decide
  have hz4 : (z3 ++ l2).length ≤ 6 := by rw [List.length_append]; omega
  generalize z3 ++ l2 = zz at S hi4 hz4
  generalize d3 ++ [58, 132, 43] = dd at hi4 h4b
  have S := S.drop (led' := (D3, lstO zz) :: (R, lsO ys kr) :: (130, tabO ps) :: led) (.cons_cons _ (.cons _ (.cons _ (.refl _))))
  have len3 : (Str.ofString "").length = 0 := by decide +kernel
  refine forList (led₀ := []) (fun i l led' => led' = [] ∧ ∃ tt P tP e te xv, P.length ≤ 30 * i ∧ okS P ∧ e.length ≤ 10 ∧ okS e ∧
    l = [some (.ref a), some (.ref R), some (.int tot tt), some (.str P tP), some (.str e te), xv, none, none, none, none, none, none, none, none]) O.hd S
    ⟨rfl, _, _, _, _, _, _, by rw [len3]; omega, okS_of (by decide +kernel), by rw [len3]; omega, okS_of (by decide +kernel), rfl⟩ (isL (S.N _ (.head _)).1) (.inr ⟨_, .head _⟩) ?_ ?_
  · rintro i v l led' I oI s hv ⟨rfl, tt, P, tP, e, te, xv, hP1, hP2, he1, he2, rfl⟩ S
    obtain ⟨n, tn, rfl, hn⟩ := ints_at hi4 i v (by simpa using hv)
    have hnb := h4b n hn
    have hi6 : i < 6 := by
      have := (Array.getElem?_eq_some_iff.mp hv).1
      have e : zz.toArray.size = zz.length := by simp
      omega
    dsimp only [List.nil_append] at S
    refine wpAny_assign_Name (stL S V5 (by simp) ?_)
    clear S; intro s S; dsimp only [List.set] at S
    refine absQ ?_
    intro QT ET hQT _
    repeat tb_start
    refine newLS S (by repeat (first | exact Strs.nil | refine Strs.cons (by decide +kernel) (by decide +kernel) ?_)) (show 8 ≤ sizeLine by decide +kernel) ?_
    clear S; intro D4 l4 s h4 hl4 S
    repeat tb_start
    refine modI S (by decide) ?_
    clear S; intro tm s S
    have e8 : n.fmod 8 = n % 8 := Int.fmod_eq_emod_of_nonneg _ (by decide)
    refine itemStr (S.N _ (.head _)).1 h4 (by with_unfolding_all rfl) (by rw [e8]; omega) (by rw [hl4, e8]; simp; omega) (by rw [e8]; omega) ?_
    intro y1 u1 hy1 ok1
    repeat tb_start
    refine newLS S (by repeat (first | exact Strs.nil | refine Strs.cons (by decide +kernel) (by decide +kernel) ?_)) (show 6 ≤ sizeLine by decide +kernel) ?_
    clear S; intro D5 l5 s h5 hl5 S
    repeat tb_start
    refine divI S (by decide) (PyProof.noPylong_small (by omega)) ?_
    clear S; intro tm s S
    repeat tb_start
    refine modI S (by decide) ?_
    clear S; intro tm s S
    have e6 : (n.fdiv 8).fmod 6 = (n / 8) % 6 := by rw [Int.fdiv_eq_ediv_of_nonneg _ (by decide)]; exact Int.fmod_eq_emod_of_nonneg _ (by decide)
    refine itemStr (S.N _ (.head _)).1 h5 (by with_unfolding_all rfl) (by rw [e6]; omega) (by rw [hl5, e6]; simp; omega) (by rw [e6]; omega) ?_
    intro y2 u2 hy2 ok2
    repeat tb_start
    refine newLS S (by repeat (first | exact Strs.nil | refine Strs.cons (by decide +kernel) (by decide +kernel) ?_)) (show 3 ≤ sizeLine by decide +kernel) ?_
    clear S; intro D6 l6 s h6 hl6 S
    repeat tb_start
    refine divI S (by decide) (PyProof.noPylong_small (by omega)) ?_
    clear S; intro tm s S
    repeat tb_start
    refine modI S (by decide) ?_
    clear S; intro tm s S
    have e3 : (n.fdiv 48).fmod 3 = (n / 48) % 3 := by rw [Int.fdiv_eq_ediv_of_nonneg _ (by decide)]; exact Int.fmod_eq_emod_of_nonneg _ (by decide)
    refine itemStr (S.N _ (.head _)).1 h6 (by with_unfolding_all rfl) (by rw [e3]; omega) (by rw [hl6, e3]; simp; omega) (by rw [e3]; omega) ?_
    intro y3 u3 hy3 ok3
    repeat tb_start
    refine hQT _ _ ?_
    refine turnN (led' := []) (S.drop (.cons _ (.cons _ (.cons _ (.refl _))))) ⟨rfl, _, _, _, y3, _, _, ?_, ?_, hy3, ok3, rfl⟩
    · simp only [Str.length_append]; omega
    · exact ((hP2.app he2).app ok1).app ok2
  rintro l led' s ⟨rfl, tt, P, tP, e, te, xv, hP1, hP2, he1, he2, rfl⟩ S
  dsimp only [List.nil_append] at S
  have hPl : P.length ≤ 200 := by
    have e : zz.toArray.size = zz.length := by simp
    omega
  clear hP1 he1 he2
  have S := S.drop (led' := (130, tabO ps) :: led) (.cons _ (.cons _ (.refl _)))
  have hu : A.units + 64 < cLine := by have := O.un; omega
  have hkl : ∀ n, (keptS n).length ≤ 6 := by
    intro n
    unfold keptS
    split
    · decide +kernel
    · split
      · decide +kernel
      · split
        · decide +kernel
        · split <;> decide +kernel
  -- the hands
  repeat tb_start
  refine modI S (by decide) ?_
  clear S; intro tm s S
  repeat tb_start
  refine divI S (by decide) (PyProof.noPylong_small (by omega)) ?_
  clear S; intro tm s S
  repeat tb_start
  refine modI S (by decide) ?_
  clear S; intro tm s S
  repeat tb_start
  refine divI S (by decide) (PyProof.noPylong_small (by omega)) ?_
  clear S; intro tm s S
  repeat tb_start
  refine modI S (by decide) ?_
  clear S; intro tm s S
  repeat tb_start
  refine divI S (by decide) (PyProof.noPylong_small (by omega)) ?_
  clear S; intro tm s S
  repeat tb_start
  refine modI S (by decide) ?_
  clear S; intro tm s S
  repeat tb_start
  generalize tot.fmod 5 = hand at S
  generalize (tot.fdiv 5).fmod 5 = outer at S
  generalize ((tot.fdiv 25).fmod 2 == 1) = place at S
  generalize ((tot.fdiv 50).fmod 2 == 1) = around at S
  have hw1 := escH_len hand P
  have hw2 := escH_len outer (escS (handPs hand) P)
  refine c_write G S (O.le (by omega) (by omega)) (by omega) ?_
  clear S; intro tw s S
  repeat tb_start
  refine c_kept G S (O.le (by omega) (by omega)) ?_
  clear S; intro tk s S
  repeat tb_start
  -- page one
  refine c_read G S (O.le (by omega) (by omega)) (by omega) ?_
  clear S; intro tr s S
  have hr1 : (readS place (escS (handPs hand) P)).length ≤ 200 := by
    rw [read_write]; exact Nat.le_trans (carrS_len (keptS hand) P place) hPl
  repeat tb_start
  refine c_outline G C S (O.le (by omega) (by omega)) (by omega) hfr hk' rfl ?_
  clear S; intro gs1 D7 v7 k7 c7 ps1 s hd7 S
  repeat tb_start
  refine c_carried G S (O.le (by omega) (by omega)) (by omega) ?_
  clear S; intro tc s S
  repeat tb_start
  refine c_due G S (O.le (by omega) (by omega)) (Nat.le_trans (carrS_len (keptS hand) P place) (by omega)) ?_
  intro D8 v8 k8 c8 s hd8 S
  refine neDat (r := true) S (d := .list _) (e := .list _) (.list (.tail _ (List.mem_append_right _ (.head _))) (hd7.mono fun p hp => .tail _ (List.mem_append_right _ (.tail _ (.tail _ (List.mem_append_left _ hp))))))
    (.list (.head _) (hd8.mono fun p hp => .tail _ (List.mem_append_left _ hp))) ?_ (ok_due _ (okS_carrS (keptS hand) P place hP2)) hu ?_ ?_
  · rw [plain_one]; exact ok_due _ (okS_carrS (keptS hand) P place hP2)
  · rw [plain_one]; exact ⟨fun _ => rfl, fun _ => rfl⟩
  rw [show (!true) = false from rfl]
  have S := S.perm (led' := (130, tabO ps1) :: ((D8, lsO v8 k8) :: (c8 ++ ((D7, lsO v7 k7) :: (c7 ++ led))))) (pmJ _ _ _ _ _)
  generalize (D8, lsO v8 k8) :: (c8 ++ ((D7, lsO v7 k7) :: (c7 ++ led))) = led2 at S
  clear hd7 hd8
  repeat tb_start
  -- page two
  refine c_write G S (O.le (by omega) (by omega)) (by omega) ?_
  clear S; intro tw2 s S
  repeat tb_start
  refine c_read G S (O.le (by omega) (by omega)) (by omega) ?_
  clear S; intro tr2 s S
  have hr2 : (readS around (escS (handPs outer) (escS (handPs hand) P))).length ≤ 1200 := by
    rw [read_twice]
    exact Nat.le_trans (escH_len hand _) (by have := carrS_len (keptS hand ++ keptS outer) P around; unfold carrS at this; omega)
  repeat tb_start
  refine c_read G S (O.le (by omega) (by omega)) (by omega) ?_
  clear S; intro tr3 s S
  have hr3 : (readS place (readS around (escS (handPs outer) (escS (handPs hand) P)))).length ≤ 200 := by
    rw [read_twice, read_write]
    exact Nat.le_trans (carrS_len (keptS hand) (carrS (keptS hand ++ keptS outer) P around) place) (Nat.le_trans (carrS_len _ _ _) hPl)
  repeat tb_start
  refine c_kept G S (O.le (by omega) (by omega)) ?_
  clear S; intro tk2 s S
  have hk1 := hkl hand
  have hk2 := hkl outer
  repeat tb_start
  refine c_carried G S (O.le (by omega) (by omega)) (by omega) ?_
  clear S; intro tc2 s S
  have hc1 : (carrS (keptS hand ++ keptS outer) P around).length ≤ 200 := Nat.le_trans (carrS_len _ _ _) hPl
  repeat tb_start
  refine c_carried G S (O.le (by omega) (by omega)) (Nat.le_trans hc1 (by decide)) ?_
  clear S; intro tc3 s S
  repeat tb_start
  refine c_outline G C S (O.le (by omega) (by omega)) (by omega) hfr hk' rfl ?_
  clear S; intro gs2 D7 v7 k7 c7 ps2 s hd7 S
  repeat tb_start
  have hok2 := okS_carrS (keptS hand) (carrS (keptS hand ++ keptS outer) P around) place (okS_carrS _ _ _ hP2)
  refine c_due G S (O.le (by omega) (by omega)) (Nat.le_trans (carrS_len (keptS hand) (carrS (keptS hand ++ keptS outer) P around) place) (by omega)) ?_
  intro D8 v8 k8 c8 s hd8 S
  refine eqDat (r := true) S (d := .list _) (e := .list _) (.list (.tail _ (List.mem_append_right _ (.head _))) (hd7.mono fun p hp => .tail _ (List.mem_append_right _ (.tail _ (.tail _ (List.mem_append_left _ hp))))))
    (.list (.head _) (hd8.mono fun p hp => .tail _ (List.mem_append_left _ hp))) ?_ (ok_due _ hok2) hu ?_ ?_
  · rw [plain_two]; exact ok_due _ hok2
  · rw [plain_two]; exact ⟨fun _ => rfl, fun _ => rfl⟩
  have S := S.perm (led' := (130, tabO ps2) :: ((D8, lsO v8 k8) :: (c8 ++ ((D7, lsO v7 k7) :: (c7 ++ led2))))) (pmJ _ _ _ _ _)
  exact hQF _ _ ⟨rfl, gs2, _, _, _, _, S⟩
end
end
section
open PySem PySem.W PySem.Calls PyProof.Rows PySem.Spec PyProof.V
set_option maxRecDepth 100000
set_option maxHeartbeats 8000000
set_option linter.unusedVariables false

/-! ### the join -/
theorem e_find : ((recsOf qv).find? (fun e => e.name == Str.ofString "format_witnesses")).isSome = true := by decide +kernel
theorem e_tab (P : Params) : tabIn (KF P) (Str.ofString "format_witnesses") = some (134, 130) := by kernel_rfl
theorem e_noTabs (P : Params) : noTabs (KF P) = true := by kernel_rfl
theorem e_law (P : Params) : nsIn (KF P) mainGlobals (Str.ofString "law") = some (some (.ref 241)) := by kernel_rfl

section
variable {w : World} {s₁ : Shared} {mg mb : Str → Option Value} {loose : List Str} {mean : ExcName → Option Value} {a : Addr} {xs : List Value} {ns : List Int}
theorem law_call {R : Result → Shared → Prop} (T : Top qv loose mean mg mb s₁.heap) (KX : (KF w.params).In s₁.heap) (hl : s₁.heap.IsList a xs.toArray) (hi : IntsAre xs ns) (hns : ns.length ≤ 63) (hg : s₁.gens = #[])
    (hR : ∀ s', OldK s₁.heap s'.heap → s'.os = s₁.os → AllBare s'.gens → R (.ok (.ret (.bool true))) s') :
    codeAny (model pw w) callerA (.call (.ref 241) ⟨[.ref a], []⟩) R s₁ := by
  obtain ⟨d, hd⟩ := Option.isSome_iff_exists.mp e_find
  have tab := tab_of T KX hd (e_tab w.params)
  have hT : TabsAt [(134, 130)] s₁.heap := fun q hq => by rw [List.mem_singleton.mp hq]; exact tab
  obtain ⟨h₀, hh₀⟩ : ∃ h₀, h₀ = ghostOf s₁.heap [(134, 130)] := ⟨_, rfl⟩
  have hc : CodeHd h₀ 134 130 := by rw [hh₀]; exact (ghost_code hT).1
  have hfree : h₀.get? 130 = none := by rw [hh₀]; exact hideAll_none _ (.head _)
  have keep₀ : ∀ b o, h₀.get? b = some o → s₁.heap.get? b = some o := fun b o e => by rw [hh₀] at e; exact of_hideAll _ e
  have back₀ : ∀ b o, b ≠ 130 → s₁.heap.get? b = some o → h₀.get? b = some o := fun b o hb e => by
    rw [hh₀]
    exact ghost_ne e (by simpa using hb)
  have G : Gnd w h₀ := by
    rw [hh₀]
    exact ⟨ghost_K hT KX (e_noTabs w.params), let ⟨mc, x, r⟩ := T.nolimit; ⟨mc, ghost_ns hT x, r⟩, let ⟨mc, x, r⟩ := T.nodigits; ⟨mc, ghost_ns hT x, r⟩, mg, mb, ghost_ns hT T.g, ghost_ns hT T.b, T.builtins⟩
  have C : GndC h₀ := by
    refine ⟨fun h ps k hP => ?_, hfree, ?_⟩
    · have hk := hc.keeps k
      exact ⟨hk.code hP ps.2, hk.tab hP⟩
    · rw [hh₀]
      obtain ⟨bm, ob, M⟩ := bmod_of_top (ghost_top hT T)
      exact ⟨mg, bm, ob, M⟩
  have hl₀ : h₀.IsList a xs.toArray := by rw [hh₀]; exact ghost_list hT hl
  obtain ⟨hf, hdt, hb, hcd, hbind, hlen, hnd, hloc', hcell', hco, hgen, hk⟩ := fn_law w.params (.ref a)
  have hloc : ∀ x ∈ [Str.ofString "script"], (fdOf w.params 241).scope.names.lookup x = some .local := fun x hx => eq_of_beq (List.all_eq_true.mp hloc' x hx)
  have hcell : ∀ x ∈ (fdOf w.params 241).scope.names, x.2 ≠ .cell := fun x hx e => by have := List.all_eq_true.mp hcell' x hx; rw [e] at this; exact absurd this (by decide)
  refine codeAny_call_def (fd := fdOf w.params 241) (body := bodyOf (fdOf w.params 241)) (binds := [Str.ofString "script"].zip [.ref a]) (by decide) (KX _ _ hf) hdt T.nolimit (codeRec_of KX hcd) hb (.of_eq hbind) hcell
    (fun x hx => hloc x.1 (List.of_mem_zip hx).1) (fun h₁ hns₁ hk₁ => ?_) hco hgen hk
  have hmap : (fun x => ([Str.ofString "script"].zip [Value.ref a]).reverse.lookup x) = locMap vs_law [some (.ref a), none, none, none, none, none, none, none, none, none, none, none, none, none] := by
    funext y
    rw [lookup_reverse _ (by rw [map_zip_fst _ _ (by rfl)]; exact hnd), lookup_zip _ _ rs_law (by rfl)]
    rfl
  rw [hmap] at hns₁
  have hsz : s₁.heap.objs.size = h₀.objs.size := by rw [hh₀]; exact (hideAll_size _ _).symm
  have hTrip : TriplesOk (#[] : Array Value).toList := trivial
  have S : St h₀ (s₁.os, s₁.gens, s₁.drawn) s₁.heap.objs.size vs_law [some (.ref a), none, none, none, none, none, none, none, none, none, none, none, none, none] ((130, tabO ⟨#[], hTrip⟩) :: [])
      { heap := h₁, gens := s₁.gens, drawn := s₁.drawn, toks := s₁.toks + ([Str.ofString "script"].zip [Value.ref a]).length, os := s₁.os } := by
    refine ⟨⟨hns₁, fun b o e => hk₁ b o (keep₀ b o e), by rw [hsz]; exact Nat.le_refl _⟩, fun p hp => ?_, by simp, .of_eq hg, rfl, Nat.succ_pos _⟩
    rw [List.mem_singleton.mp hp]
    exact ⟨hk₁ _ _ tab.2, Nat.ne_of_lt (Heap.lt_size tab.2), hfree⟩
  refine wpAny_mono (c_lawBody G C S ⟨rfl, by show callerA.depth + 1 + 12 < recursionLimit; decide, by show callerA.units + 3 + 400 < cLine; decide⟩ rfl hl₀ hi hns) (fun fl s' h => ?_) fun _ _ x => x.elim
  obtain ⟨rfl, gs, vs', l', led', ps', S'⟩ := h
  have h130 : s'.heap.get? 130 = some (tabO ps') := (S'.N _ (.head _)).1
  have key : ∀ b o, s₁.heap.get? b = some o → (b = 130 ∧ o = tabObj #[]) ∨ s'.heap.get? b = some o := fun b o e => by
    by_cases q : b = 130
    · subst q
      rw [tab.2] at e
      cases e
      exact .inl ⟨rfl, rfl⟩
    · exact .inr (S'.F.keep b o (back₀ b o q e))
  refine hR s' ⟨fun b o e => ?_, fun b o e => ?_⟩ (congrArg Prod.fst S'.os) S'.gens
  · rcases key b o e with ⟨rfl, rfl⟩ | h
    · refine .inr (.inl ⟨(tab.1.tab tab.2).isCodeTable, rfl, #[], ps'.1, rfl, ?_⟩)
      rw [h130]
      simp
    · exact .inl h
  · rcases key b o e with ⟨rfl, rfl⟩ | h
    · exact ⟨_, h130⟩
    · exact ⟨o, h⟩
end
end
end Mine
set_option maxRecDepth 100000 in
set_option maxHeartbeats 8000000 in
theorem PySem.Challenge.cw_pg0258_01_holds : PySem.Challenge.rw_pg0258_01.Holds := by
  refine Mine.hd ?_
  k_fill
  intro w s₀ s₁ mg mb G Y fa o pm cd doc dV kV ho hd hcd hD hmg hg args vals as hpre hlay hrd hwl hlo
  have KX := kIn_of Y
  refine Ground.open G ?_
  intro T B D TE TW
  have hlaw := mg_of KX T.g (Mine.e_law w.params)
  have hfa : fa = 241 := by
    rw [Mine.h_nm] at hmg
    have e := hmg.symm.trans hlaw
    cases e
    rfl
  subst hfa
  clear ho hd hcd hD hmg
  wrow_args hpre hlay hrd hwl hlo
  refine wpAny_call (Mine.law_call T KX (by assumption) (by assumption) (by omega) hg (fun s' hK hos hgen => ?_))
  refine ⟨.inl ⟨.bool true, .bool true, [], rfl, raisesW_false ?_, .bool true, ?_, fun _ => ⟨List.nodup_nil, nofun⟩⟩, hK, hos, hgen⟩
  · wrow_none_raised
  · wrow_post
