import PyProof.Rows.All
import Wide.All
import OpenK.AllK
import Wide.FinOn
import PySem.Challenge.RW_mq0141_01
open PySem PySem.W PyProof.Rows
set_option Elab.async false
set_option maxRecDepth 100000
set_option maxHeartbeats 8000000
set_option linter.unusedVariables false
set_option linter.unusedSimpArgs false
namespace Mine
section
open_top hd for PySem.Challenge.rw_mq0141_01
end
end Mine
namespace Mine
section
theorem fillX {w : World} {g : Heap} {P : Prop} (X : (Mine.hd.heap_39 w.params).In g) (h : (Mine.hd.heap_39 w.params).In g ∧ PySem.Challenge.rw_mq0141_01 = PySem.Challenge.rw_mq0141_01 → P) : P := h ⟨X, rfl⟩
noncomputable abbrev Pr : Program := Challenge.rw_mq0141_01.row.prog
/-- the ground: the text's own objects, the names of the top -/
structure Gd (w : World) (g : Heap) : Prop where
  x : (Mine.hd.heap_39 w.params).In g
  t : ∃ mg mb, TopRead Mine.hd.view_39 (looseW Mine.hd.view_39 []) mg mb g
theorem Gd.keeps {w : World} {g h : Heap} (G : Gd w g) (k : g.StaysIn h) : Gd w h :=
  ⟨G.x.keeps k, let ⟨mg, mb, T⟩ := G.t; ⟨mg, mb, T.keeps k⟩⟩
structure AOk (A : Around) (n : Nat) : Prop where
  hh : A.handled = none
  hd : A.depth + n < recursionLimit
  hu : A.units + 50 * n < cLine
theorem AOk.deeper {A : Around} {n : Nat} {env : Env} (a : AOk A (n + 1)) : AOk (A.deeper env) n :=
  ⟨a.hh, by have := a.hd; show A.depth + 1 + n < _; omega, by have := a.hu; show A.units + 3 + _ < _; omega⟩
theorem AOk.in1 {A : Around} {n : Nat} (a : AOk A (n + 1)) : AOk A.in1 n :=
  ⟨a.hh, by have := a.hd; show A.depth + n < _; omega, by have := a.hu; show A.units + 1 + _ < _; omega⟩
theorem AOk.less {A : Around} {n k : Nat} (a : AOk A n) (h : k ≤ n) : AOk A k :=
  ⟨a.hh, by have := a.hd; omega, by have := a.hu; omega⟩
/-- what may be read in a frame or a block -/
structure Rd (env : Env) (m cm : Str → Option Value) (g h : Heap) : Prop where
  ns : h.Ns env.locals m
  cell : ∀ n c, env.cells.lookup n = some c → h.IsCell c (cm n)
  keep : g.StaysIn h
theorem Rd.keeps {env : Env} {m cm : Str → Option Value} {g h h' : Heap} (R : Rd env m cm g h) (k : h.StaysIn h') : Rd env m cm g h' :=
  ⟨R.ns.keeps k, fun n c e => let ⟨o, ho, hd⟩ := R.cell n c e; ⟨o, k _ _ ho, hd⟩, fun b o e => k b o (R.keep b o e)⟩
structure St (env : Env) (m cm : Str → Option Value) (g h : Heap) : Prop extends Rd env m cm g h where
  loc : g.get? env.locals = none
  cls : ∀ n c, env.cells.lookup n = some c → g.get? c = none ∧ c ≠ env.locals
  apart : env.cells.Pairwise fun x y => x.2 ≠ y.2
theorem St.keeps {env : Env} {m cm : Str → Option Value} {g h h' : Heap} (S : St env m cm g h) (k : h.StaysIn h') : St env m cm g h' :=
  ⟨S.toRd.keeps k, S.loc, S.cls, S.apart⟩
theorem none_less {g g' : Heap} {a : Addr} (k : g.StaysIn g') (h : g'.get? a = none) : g.get? a = none := by
  cases e : g.get? a with
  | none => rfl
  | some o => have := k _ _ e; rw [h] at this; cases this
theorem St.less {env : Env} {m cm : Str → Option Value} {g g' h : Heap} (S : St env m cm g' h) (k : g.StaysIn g') : St env m cm g h :=
  ⟨⟨S.ns, S.cell, fun b o e => S.keep b o (k b o e)⟩, none_less k S.loc, fun n c hm => ⟨none_less k (S.cls n c hm).1, (S.cls n c hm).2⟩, S.apart⟩
/-- all that stands now, but for what the frame itself stores into -/
theorem St.more {env : Env} {m cm : Str → Option Value} {g h : Heap} (S : St env m cm g h) :
    ∃ g', St env m cm g' h ∧ g.StaysIn g' ∧ ∀ b o, h.get? b = some o → b ≠ env.locals → (∀ n c, env.cells.lookup n = some c → b ≠ c) → g'.get? b = some o := by
  let hid : List Addr := env.locals :: (env.cells.filter fun p => decide (env.cells.lookup p.1 = some p.2)).map (·.2)
  have nin : ∀ b, b ≠ env.locals → (∀ n c, env.cells.lookup n = some c → b ≠ c) → b ∉ hid := by
    intro b h1 h2 hb
    rcases List.mem_cons.mp hb with e | hb
    · exact h1 e
    · obtain ⟨p, hp, e⟩ := List.mem_map.mp hb
      exact h2 p.1 p.2 (by simpa using (List.mem_filter.mp hp).2) e.symm
  have inn : ∀ n c, env.cells.lookup n = some c → c ∈ hid := fun n c hc =>
    List.mem_cons_of_mem _ (List.mem_map.mpr ⟨(n, c), List.mem_filter.mpr ⟨mem_of_lookup hc, by simpa using hc⟩, rfl⟩)
  refine ⟨hideAll h hid, ⟨⟨S.ns, S.cell, fun b o e => of_hideAll _ e⟩, hideAll_none _ (List.mem_cons_self ..), fun n c hm => ⟨hideAll_none _ (inn n c hm), (S.cls n c hm).2⟩, S.apart⟩, fun b o e => ?_, fun b o e h1 h2 => hideAll_get _ e (nin b h1 h2)⟩
  refine hideAll_get _ (S.keep b o e) (nin b (fun q => ?_) fun n c hm q => ?_)
  · rw [q, S.loc] at e; cases e
  · rw [q, (S.cls n c hm).1] at e; cases e
theorem notHere {env : Env} {m cm : Str → Option Value} {g h : Heap} (S : Rd env m cm g h) {b : Addr} (hb : h.get? b = none) : b ≠ env.locals ∧ ∀ n c, env.cells.lookup n = some c → b ≠ c := by
  constructor
  · rintro rfl; obtain ⟨o, _, _, ho, _⟩ := S.ns; rw [hb] at ho; cases ho
  · rintro n c hc rfl; obtain ⟨o, ho, _⟩ := S.cell n _ hc; rw [hb] at ho; cases ho
/-- a step that keeps all and makes more: what is new stands under guard too -/
theorem St.grow {env : Env} {m cm : Str → Option Value} {g h h' : Heap} (S : St env m cm g h) (k : h.StaysIn h') :
    ∃ g', St env m cm g' h' ∧ g.StaysIn g' ∧ ∀ b o, h.get? b = none → h'.get? b = some o → g'.get? b = some o := by
  obtain ⟨g', S', k', n'⟩ := (S.keeps k).more
  exact ⟨g', S', k', fun b o hb e => n' b o e (notHere S.toRd hb).1 (notHere S.toRd hb).2⟩
section
variable {M : Model} {A : Around} {E : Value → Shared → Prop} {s : Shared} {env : Env} {m cm : Str → Option Value} {g : Heap}
theorem nmL {x : Str} {pos : Pos} {v : Value} {Q : Value → Shared → Prop} (R : Rd env m cm g s.heap) (hx : env.kindOf x = some .local) (hk : env.scope.kind = .function) (hv : m x = some v) (h : Q v s) (hd : (x == ("__debug__" : Str)) = false) :
    wpAny M A (eval (.Name x pos) env) Q E s := wpAny_Name (wpAny_loadName_local hk hx R.ns hv h) hd
theorem nmC {x : Str} {pos : Pos} {v : Value} {c : Addr} {Q : Value → Shared → Prop} (R : Rd env m cm g s.heap) (hx : env.kindOf x = some .cell) (hk : env.scope.kind = .function) (hc : env.cells.lookup x = some c) (hv : cm x = some v) (h : Q v s) (hd : (x == ("__debug__" : Str)) = false) :
    wpAny M A (eval (.Name x pos) env) Q E s := wpAny_Name (wpAny_loadName_cell hk hx hc (hv ▸ R.cell x c hc) h) hd
theorem nmG {w : World} {x : Str} {pos : Pos} {v : Value} {Q : Value → Shared → Prop} (R : Rd env m cm g s.heap) (G : Gd w g) (hx : env.kindOf x = some .globalImplicit) (hk : env.scope.kind = .function) (hg : env.globals = mainGlobals)
    (e : nsIn (Mine.hd.heap_39 w.params) mainGlobals x = some (some v)) (h : Q v s) (hd : (x == ("__debug__" : Str)) = false) :
    wpAny M A (eval (.Name x pos) env) Q E s := by
  obtain ⟨mg, mb, T⟩ := G.t
  exact Calls.Name_function_global hk hx (Calls.loadGlobal_global (by rw [hg]; exact T.g.keeps R.keep) (mg_of G.x T.g e) h) hd
theorem nmB {w : World} {x : Str} {pos : Pos} {v : Value} {Q : Value → Shared → Prop} (R : Rd env m cm g s.heap) (G : Gd w g) (hx : env.kindOf x = some .globalImplicit) (hk : env.scope.kind = .function) (hg : env.globals = mainGlobals) (hb : env.builtins = builtinsNs)
    (e : nsIn (Mine.hd.heap_39 w.params) mainGlobals x = some none) (hv : bootBuiltins x = some v) (hn : x ≠ "__name__") (h : Q v s) (hd : (x == ("__debug__" : Str)) = false) :
    wpAny M A (eval (.Name x pos) env) Q E s := by
  obtain ⟨mg, mb, T⟩ := G.t
  exact Calls.Name_function_global hk hx (Calls.loadGlobal_builtin (by rw [hg]; exact T.g.keeps R.keep) (mg_none_of G.x T.g e) (by rw [hb]; exact T.b.keeps R.keep) ((T.builtins x hn).trans hv) h) hd
theorem stL {x : Str} {v : Value} {Q : Unit → Shared → Prop} (S : St env m cm g s.heap) (ht : 1 ≤ s.toks) (hx : env.kindOf x = some .local) (hk : env.scope.kind = .function)
    (h : ∀ h' tk, 1 ≤ tk → St env (fun y => if y = x then some v else m y) cm g h' → Q () { s with heap := h', toks := tk }) : wpAny M A (storeName env x v) Q E s := by
  refine wpAny_storeName_local hx S.ns (fun h' hn hs => h h' _ (Nat.le_succ_of_le ht) ⟨⟨hn, fun n c hc => (S.cell n c hc).sameBut hs (S.cls n c hc).2, fun b o e => ?_⟩, S.loc, S.cls, S.apart⟩) (by rw [hk]; rfl)
  exact (hs.2 b (fun q => by rw [q, S.loc] at e; cases e)).trans (S.keep b o e)
theorem stC {x : Str} {v : Value} {c : Addr} {Q : Unit → Shared → Prop} (S : St env m cm g s.heap) (ht : 1 ≤ s.toks) (hx : env.kindOf x = some .cell) (hk : env.scope.kind = .function) (hc : env.cells.lookup x = some c)
    (h : ∀ h' tk, 1 ≤ tk → St env m (fun y => if y = x then some v else cm y) g h' → Q () { s with heap := h', toks := tk }) : wpAny M A (storeName env x v) Q E s := by
  have hcl := S.cls x c hc
  refine wpAny_storeName_cell hk hx hc (S.cell x c hc) fun h' hc' hs' => h h' s.toks ht ⟨⟨S.ns.sameBut hs' (Ne.symm hcl.2), fun k c' hk' => ?_, fun b o e => ?_⟩, S.loc, S.cls, S.apart⟩
  · by_cases hkn : k = x
    · subst hkn
      rw [hc] at hk'; cases hk'
      simpa using hc'
    · rw [if_neg hkn]
      exact (S.cell k c' hk').sameBut hs' fun e => hkn (name_of_addr S.apart (mem_of_lookup hk') (e ▸ mem_of_lookup hc))
  · exact (hs'.2 b (fun q => by rw [q, hcl.1] at e; cases e)).trans (S.keep b o e)
end
/-- what a call of ours leaves: a value, and all that stood as it was -/
def Ret (s : Shared) (P : Value → Heap → Prop) (r : Result) (s' : Shared) : Prop :=
  ∃ v h' tk, r = .ok (.ret v) ∧ s' = { s with heap := h', toks := tk } ∧ s.heap.StaysIn h' ∧ P v h'
/-- the end of a frame of ours -/
def Done (s : Shared) (P : Value → Heap → Prop) (v : Value) (s' : Shared) : Prop :=
  ∃ h' tk, s' = { s with heap := h', toks := tk } ∧ s.heap.StaysIn h' ∧ P v h'
theorem Done.of {s : Shared} {P : Value → Heap → Prop} {v : Value} {env : Env} {m cm : Str → Option Value} {g h' : Heap} {tk : Nat} (S : St env m cm g h') (k : s.heap.StaysIn g) (p : P v h') : Done s P v { s with heap := h', toks := tk } :=
  ⟨h', tk, rfl, fun b o e => S.keep b o (k b o e), p⟩
theorem stays_refl (h : Heap) : h.StaysIn h := fun _ _ e => e
theorem use {w : World} {A : Around} {s : Shared} {f : Addr} {args : List Value} {P : Value → Heap → Prop} {Q : Value → Shared → Prop} {E : Value → Shared → Prop}
    (c : codeAny (model Pr w) A (.call (.ref f) ⟨args, []⟩) (Ret s P) s) (ht : 1 ≤ s.toks) (h : ∀ v h' tk, 1 ≤ tk → s.heap.StaysIn h' → P v h' → Q v { s with heap := h', toks := tk }) : wpAny (model Pr w) A (call (.ref f) args) Q E s := by
  refine wpAny_with_toks (n := 1) ht (wpAny_call (codeAny_mono c fun r s' hr => ?_))
  obtain ⟨v, h', tk, rfl, rfl, k, p⟩ := hr
  exact fun ht' => h v h' tk ht' k p
theorem bindL_eq (kd : Str → Option NameKind) : ∀ (binds : List (Str × Value)) (m : Str → Option Value) (y : Str), bindL kd binds m y = ((binds.filter fun p => kd p.1 == some .local).reverse.lookup y).or (m y)
  | [], m, y => by simp [bindL]
  | (n, v) :: r, m, y => by
    unfold bindL
    rw [bindL_eq kd r]
    by_cases h : kd n = some .local
    · rw [if_pos h, List.filter_cons_of_pos (by simpa using h), List.reverse_cons, List.lookup_append]
      by_cases e : y = n
      · subst e; simp [List.lookup_cons]
      · have e' : (y == n) = false := by simpa using e
        simp [List.lookup_cons, e, e']
    · rw [if_neg h, List.filter_cons_of_neg (by simpa using h)]
theorem bindC_eq (kd : Str → Option NameKind) : ∀ (binds : List (Str × Value)) (m : Str → Option Value) (y : Str), bindC kd binds m y = ((binds.filter fun p => kd p.1 != some .local).reverse.lookup y).or (m y)
  | [], m, y => by simp [bindC]
  | (n, v) :: r, m, y => by
    unfold bindC
    rw [bindC_eq kd r]
    by_cases h : kd n = some .local
    · rw [if_pos h, List.filter_cons_of_neg (by simpa using h)]
    · rw [if_neg h, List.filter_cons_of_pos (by simpa using h), List.reverse_cons, List.lookup_append]
      by_cases e : y = n
      · subst e; simp [List.lookup_cons]
      · have e' : (y == n) = false := by simpa using e
        simp [List.lookup_cons, e, e']
/-- a name's worth in a list of names -/
def lk (l : List (Str × Value)) (y : Str) : Option Value := l.lookup y
theorem call_cells' {prog : Program} {w : World} {A : Around} {s : Shared} {R : Result → Shared → Prop} {a : Addr} {o : Obj} {fd : FuncData} {body : List Stmt} {vals : List Value} {binds : List (Str × Value)}
    (hroom : A.depth < recursionLimit) (ho : s.heap.get? a = some o) (hdata : o.data = .func fd) (hlim : s.heap.NoLimit) (hcd : s.heap.CodeRec fd.code fd.qualname)
    (hbody : fd.body = .stmts body) (hbind : bindArgs fd ⟨vals, []⟩ = pure binds) (hclo : fd.closure = []) (ht : 1 ≤ s.toks)
    (hkind : ∀ x ∈ binds, fd.scope.names.lookup x.1 = some .local ∨ (fd.scope.names.lookup x.1 = some .cell ∧ ((cellsFrom (s.heap.objs.size + 1) fd.scope.names []).lookup x.1).isSome = true))
    (h : ∀ s₁, 1 ≤ s₁.toks → InCallC s (callEnvC fd s.heap.objs.size a).locals (bindL (callEnvC fd s.heap.objs.size a).kindOf binds fun _ => none) (callEnvC fd s.heap.objs.size a).cells
        (bindC (callEnvC fd s.heap.objs.size a).kindOf binds fun _ => none) s₁ →
      wpAny (model prog w) (A.deeper (callEnvC fd s.heap.objs.size a)) (execs body (callEnvC fd s.heap.objs.size a)) (fun f s' => R (.ok (.ret (match f with | .ret v => v | _ => .none))) s')
        (fun e s' => wpAny (model prog w) (A.deeper (callEnvC fd s.heap.objs.size a)) (leaving (callEnvC fd s.heap.objs.size a) e) (fun _ s'' => R (.error e) s'') (fun e' s'' => R (.error e') s'') s') s₁)
    (hco : fd.scope.isCoroutine = false) (hgen : fd.scope.isGenerator = false) (hk : fd.scope.kind = .function) :
    codeAny (model prog w) A (.call (.ref a) ⟨vals, []⟩) R s := by
  refine codeAny_call_function hroom ho hdata hco hgen hbody hcd ?_
  rw [hbind, hclo]
  refine wpAny_pure (wpAny_with_toks ht (wpAny_newFunctionEnv_cells hk hkind fun env he s' x ht' => ?_))
  subst he
  exact ⟨hlim.keeps x.toInCall.keep, codeAny_func (h s' ht' x)⟩
theorem enter {w : World} {A : Around} {s : Shared} {f : Addr} {fd : FuncData} {oc : Value} {od : Option Addr} {osl : Array (Option Value)} {vals : List Value} {binds : List (Str × Value)} {body : List Stmt} {P : Value → Heap → Prop} {n : Nat} (lb cb : List (Str × Value))
    (G : Gd w s.heap) (a : AOk A (n + 1)) (ht : 1 ≤ s.toks) (hK : (Mine.hd.heap_39 w.params).lookup f = some ⟨oc, od, .func fd, osl⟩) (hcd : codeIn (Mine.hd.heap_39 w.params) fd.code fd.qualname = true)
    (hbody : fd.body = .stmts body) (hbind : bindArgs fd ⟨vals, []⟩ = pure binds) (hclo : fd.closure = [])
    (hkind : (binds.all fun y => fd.scope.names.lookup y.1 == some .local || fd.scope.names.lookup y.1 == some .cell) = true)
    (hlb : (binds.filter fun p => fd.scope.names.lookup p.1 == some .local).reverse = lb) (hcb : (binds.filter fun p => fd.scope.names.lookup p.1 != some .local).reverse = cb)
    (h : ∀ A' env h₁ tk, env = callEnvC fd s.heap.objs.size f → 1 ≤ tk → AOk A' n → Gd w s.heap → St env (lk lb) (lk cb) s.heap h₁ →
      wpAny (model Pr w) A' (execs body env)
        (fun fl s' => Done s P (match fl with | .ret v => v | _ => .none) s') (fun _ _ => False) { s with heap := h₁, toks := tk })
    (hco : fd.scope.isCoroutine = false) (hgen : fd.scope.isGenerator = false) (hk : fd.scope.kind = .function) :
    codeAny (model Pr w) A (.call (.ref f) ⟨vals, []⟩) (Ret s P) s := by
  obtain ⟨mg, mb, T⟩ := G.t
  refine call_cells' (binds := binds) (by have := a.hd; omega) (G.x _ _ hK) rfl T.nolimit (codeRec_of G.x hcd) hbody hbind hclo ht (kindsX hkind _) (fun s₁ ht₁ x => ?_) hco hgen hk
  obtain ⟨h₁, tk, rfl, hkeep⟩ := x.done
  have hnew : s.heap.get? s.heap.objs.size = none := by
    cases q : s.heap.get? s.heap.objs.size with
    | none => rfl
    | some o => exact absurd (Heap.lt_size q) (Nat.lt_irrefl _)
  have e1 : (bindL (callEnvC fd s.heap.objs.size f).kindOf binds fun _ => none) = lk lb := by
    funext y
    rw [bindL_eq, Option.or_none]
    show List.lookup y (binds.filter fun p => fd.scope.names.lookup p.1 == some .local).reverse = _
    rw [hlb]; rfl
  have e2 : (bindC (callEnvC fd s.heap.objs.size f).kindOf binds fun _ => none) = lk cb := by
    funext y
    rw [bindC_eq, Option.or_none]
    show List.lookup y (binds.filter fun p => fd.scope.names.lookup p.1 != some .local).reverse = _
    rw [hcb]; rfl
  refine wpAny_mono (h _ _ h₁ tk rfl ht₁ a.deeper G ⟨⟨e1 ▸ x.toInCall.ns, e2 ▸ x.cell, hkeep⟩, hnew, fun nm c hm => ⟨?_, Nat.ne_of_gt (x.above nm c (mem_of_lookup hm))⟩, x.apart⟩) (fun fl s' hl => ?_) fun _ _ e => e.elim
  · cases q : s.heap.get? c with
    | none => rfl
    | some o => exact absurd (Nat.lt_trans (Heap.lt_size q) (x.above nm c (mem_of_lookup hm))) (Nat.lt_irrefl _)
  · obtain ⟨h', tk', rfl, k, p⟩ := hl
    exact ⟨_, h', tk', rfl, rfl, k, p⟩
end
end Mine
namespace Mine
section
open PySem PySem.Float64
/-- a * 2 ^ j is the worth of some finite double -/
theorem exists_V {a j : Nat} (ha : a ≤ 2 ^ 53) (h0 : a ≠ 0) (h1 : 52 ≤ j) (h2 : j ≤ 1080) : ∃ t, t < infMag ∧ V t = a * 2 ^ j := by
  by_cases hb : a = 2 ^ 53
  · subst hb
    refine ⟨j * 2 ^ 52 + 2 ^ 53, ?_, V_at (Nat.le_refl _) (.inl (by decide))⟩
    unfold infMag; omega
  have hlt : a < 2 ^ 53 := by omega
  have l1 := Nat.log2_self_le h0
  have l2 := @Nat.lt_log2_self a
  have l3 : a.log2 ≤ 52 := by
    have := (Nat.log2_lt h0).mpr hlt
    omega
  generalize hL : a.log2 = L at *
  have e1 : 2 ^ L * 2 ^ (52 - L) = 2 ^ 52 := by rw [← Nat.pow_add]; congr 1; omega
  have e2 : 2 ^ (L + 1) * 2 ^ (52 - L) = 2 ^ 53 := by rw [← Nat.pow_add]; congr 1; omega
  have q1 : 2 ^ 52 ≤ a * 2 ^ (52 - L) := by rw [← e1]; exact Nat.mul_le_mul_right _ l1
  have q2 : a * 2 ^ (52 - L) ≤ 2 ^ 53 := by rw [← e2]; exact Nat.mul_le_mul_right _ (Nat.le_of_lt l2)
  refine ⟨(j - (52 - L)) * 2 ^ 52 + a * 2 ^ (52 - L), ?_, ?_⟩
  · unfold infMag
    have : j - (52 - L) ≤ 1080 := by omega
    have h3 : (j - (52 - L)) * 2 ^ 52 ≤ 1080 * 2 ^ 52 := Nat.mul_le_mul_right _ this
    omega
  · rw [V_at q2 (.inl q1), Nat.mul_assoc, ← Nat.pow_add]
    congr 2
    omega
theorem rep_core {r : UInt64} {neg : Bool} {W D a k : Nat} (R : Right r neg W D) (hD : 0 < D) (hk : k ≤ 500) (ha : a ≤ 2 ^ 53) (h : W * 2 ^ k = a * 2 ^ 1074 * D) :
    (∃ m e, decode r = .fin neg m e) ∧ val r * 2 ^ k = sgn neg a * 2 ^ 1074 := by
  obtain ⟨t, rfl, hle, hinf, hnear⟩ := R
  have hsplit : (2 : Nat) ^ 1074 = 2 ^ (1074 - k) * 2 ^ k := by rw [← Nat.pow_add]; congr 1; omega
  have hW : W = a * 2 ^ (1074 - k) * D := by
    refine Nat.eq_of_mul_eq_mul_right (Nat.two_pow_pos k) ?_
    rw [h, hsplit]; ac_rfl
  have hsmall : ¬ D * ((2 ^ 54 - 1) * 2 ^ 2045) ≤ 2 * W := by
    intro hc
    have h1 : a * 2 ^ (1074 - k) ≤ 2 ^ 53 * 2 ^ 1074 := Nat.mul_le_mul ha (Nat.pow_le_pow_right (by decide) (by omega))
    have h2 : 2 * W ≤ D * (2 ^ 54 * 2 ^ 1074) := by
      rw [hW]
      calc 2 * (a * 2 ^ (1074 - k) * D) = 2 * (a * 2 ^ (1074 - k)) * D := by ac_rfl
        _ ≤ 2 * (2 ^ 53 * 2 ^ 1074) * D := Nat.mul_le_mul_right _ (Nat.mul_le_mul_left _ h1)
        _ = D * (2 ^ 54 * 2 ^ 1074) := by rw [show (2 : Nat) ^ 54 = 2 * 2 ^ 53 by decide]; generalize (2 : Nat) ^ 1074 = Z; generalize (2 : Nat) ^ 53 = Y; ac_rfl
    have h3 : D * ((2 ^ 54 - 1) * 2 ^ 2045) ≤ D * (2 ^ 54 * 2 ^ 1074) := Nat.le_trans hc h2
    have h4 := Nat.le_of_mul_le_mul_left h3 hD
    have h5 : (2 : Nat) ^ 2045 = 2 ^ 971 * 2 ^ 1074 := by rw [← Nat.pow_add]
    rw [h5, ← Nat.mul_assoc] at h4
    have h6 := Nat.le_of_mul_le_mul_right h4 (Nat.two_pow_pos 1074)
    revert h6; decide +kernel
  have ht : t < infMag := by
    rcases Nat.lt_or_ge t infMag with h1 | h1
    · exact h1
    · exact absurd (hinf.mp (Nat.le_antisymm hle h1)) hsmall
  have hV : V t = a * 2 ^ (1074 - k) := by
    obtain ⟨t0, ht0, hV0⟩ : ∃ t0, t0 < infMag ∧ V t0 = a * 2 ^ (1074 - k) := by
      by_cases h0 : a = 0
      · subst h0; exact ⟨0, by unfold infMag; decide, by rw [Nat.zero_mul]; unfold V; simp⟩
      · exact exists_V ha h0 (by omega) (by omega)
    have h1 := (hnear ht t0).1
    rw [hV0, hW, show a * 2 ^ (1074 - k) * D = D * (a * 2 ^ (1074 - k)) from Nat.mul_comm _ _] at h1
    have h2 : dist (D * (a * 2 ^ (1074 - k))) (D * (a * 2 ^ (1074 - k))) = 0 := by unfold dist; omega
    rw [h2] at h1
    have h3 : D * (a * 2 ^ (1074 - k)) = D * V t := by unfold dist at h1; omega
    exact (Nat.eq_of_mul_eq_mul_left hD h3).symm
  refine ⟨let ⟨m, e, hd, _⟩ := decode_pack neg ht; ⟨m, e, hd⟩, ?_⟩
  have e2 : ((2 ^ (1074 - k) : Nat) : Int) * 2 ^ k = 2 ^ 1074 := by
    have := congrArg (fun z : Nat => (z : Int)) hsplit
    simp only [Int.natCast_mul, Int.natCast_pow] at this ⊢
    exact this.symm
  rw [val_pack neg ht, hV, sgn_mul, Int.mul_assoc, e2]
/-- a power of two, not over 2 ^ 500 -/
def P2 (d : Int) : Prop := ∃ k : Nat, k ≤ 500 ∧ d = 2 ^ k
theorem P2.pos {d : Int} (h : P2 d) : 0 < d := by obtain ⟨k, _, rfl⟩ := h; exact Int.pow_pos (by decide)
/-- the double x is the number a / d -/
def Rep (x : UInt64) (a d : Int) : Prop := (∃ neg m e, decode x = .fin neg m e) ∧ val x * d = a * 2 ^ 1074
theorem Rep.scale {x : UInt64} {a d : Int} (h : Rep x a d) (c : Int) : Rep x (a * c) (d * c) :=
  ⟨h.1, by rw [← Int.mul_assoc, h.2, Int.mul_assoc, Int.mul_assoc, Int.mul_comm c]⟩
theorem Rep.unscale {x : UInt64} {a d c : Int} (h : Rep x (a * c) (d * c)) (hc : c ≠ 0) : Rep x a d :=
  ⟨h.1, by
    have h2 := h.2
    rw [← Int.mul_assoc, Int.mul_assoc a, Int.mul_comm c, ← Int.mul_assoc] at h2
    exact Int.eq_of_mul_eq_mul_right hc h2⟩
theorem Rep.to {x : UInt64} {a d b e : Int} (h : Rep x a d) (hd : d ≠ 0) (q : a * e = b * d) : Rep x b e := by
  have h1 := h.scale e
  rw [q, Int.mul_comm d e] at h1
  exact h1.unscale hd
theorem rep_of_right {r : UInt64} {neg : Bool} {W D : Nat} {a d : Int} (R : Right r neg W D) (hD : 0 < D) (p : P2 d) (ha : a.natAbs ≤ 2 ^ 53) (hs : a = sgn neg a.natAbs) (h : (W : Int) * d = a.natAbs * 2 ^ 1074 * D) : Rep r a d := by
  obtain ⟨k, hk, rfl⟩ := p
  have h' : W * 2 ^ k = a.natAbs * 2 ^ 1074 * D := by
    have : ((W * 2 ^ k : Nat) : Int) = ((a.natAbs * 2 ^ 1074 * D : Nat) : Int) := by
      simp only [Int.natCast_mul, Int.natCast_pow]; exact h
    exact Int.ofNat.inj this
  obtain ⟨⟨m, e, hd⟩, hv⟩ := rep_core R hD hk ha h'
  exact ⟨⟨neg, m, e, hd⟩, by rw [hv, ← hs]⟩
theorem sgn_self (a : Int) : a = sgn (decide (a < 0)) a.natAbs := by
  unfold sgn; by_cases h : a < 0 <;> simp [h] <;> omega
/-- int / int -/
theorem rep_ofFrac {a b c d : Int} (hb : b ≠ 0) (p : P2 d) (hc : c.natAbs ≤ 2 ^ 53) (q : a * d = c * b) : Rep (ofFrac (decide (a < 0) != decide (b < 0)) a.natAbs b.natAbs) c d := by
  have hd := p.pos
  have hbn : 0 < b.natAbs := by omega
  have R : Right (ofFrac (decide (a < 0) != decide (b < 0)) a.natAbs b.natAbs) (decide (a < 0) != decide (b < 0)) (a.natAbs * 2 ^ 1074) b.natAbs := ofFrac_right hbn rfl hbn
  have qn : (a.natAbs : Int) * d = c.natAbs * b.natAbs := by
    have := congrArg Int.natAbs q
    rw [Int.natAbs_mul, Int.natAbs_mul] at this
    have h2 : ((a.natAbs * d.natAbs : Nat) : Int) = ((c.natAbs * b.natAbs : Nat) : Int) := by rw [this]
    rw [Int.natCast_mul, Int.natCast_mul] at h2
    rw [← h2]; congr 1; omega
  by_cases h0 : c = 0
  · subst h0
    have ha : a = 0 := by
      rw [Int.zero_mul] at q
      rcases Int.mul_eq_zero.mp q with h | h
      · exact h
      · omega
    subst ha
    exact rep_of_right R hbn p hc (by unfold sgn; split <;> simp) (by rw [Int.natAbs_zero, Nat.zero_mul]; generalize (2 : Int) ^ 1074 = Z; simp)
  · refine rep_of_right R hbn p hc ?_ ?_
    · have key : (c < 0) ↔ ¬ ((a < 0) ↔ (b < 0)) := by
        have hne : a ≠ 0 := by
          rintro rfl
          rw [Int.zero_mul] at q
          rcases Int.mul_eq_zero.mp q.symm with h | h <;> omega
        rcases Int.lt_or_gt_of_ne hne with ha | ha <;> rcases Int.lt_or_gt_of_ne hb with hb' | hb' <;> rcases Int.lt_or_gt_of_ne h0 with hc' | hc'
        · exfalso; have := Int.mul_neg_of_neg_of_pos ha hd; have := Int.mul_pos_of_neg_of_neg hc' hb'; omega
        · constructor <;> intro <;> omega
        · constructor <;> intro <;> omega
        · exfalso; have := Int.mul_neg_of_neg_of_pos ha hd; have := Int.mul_pos hc' hb'; omega
        · constructor <;> intro <;> omega
        · exfalso; have := Int.mul_pos ha hd; have := Int.mul_neg_of_pos_of_neg hc' hb'; omega
        · exfalso; have := Int.mul_pos ha hd; have := Int.mul_neg_of_neg_of_pos hc' hb'; omega
        · constructor <;> intro <;> omega
      conv => lhs; rw [sgn_self c]
      congr 1
      by_cases h1 : a < 0 <;> by_cases h2 : b < 0 <;> simp [h1, h2] at key ⊢ <;> omega
    · rw [Int.natCast_mul, show ((2 ^ 1074 : Nat) : Int) = 2 ^ 1074 by simp]
      generalize (2 : Int) ^ 1074 = Z
      calc (a.natAbs : Int) * Z * d = a.natAbs * d * Z := by ac_rfl
        _ = c.natAbs * b.natAbs * Z := by rw [qn]
        _ = c.natAbs * Z * b.natAbs := by ac_rfl
end
end Mine
namespace Mine
section
open PySem PySem.Float64
theorem Zpos : (0 : Int) < 2 ^ 1074 := Int.pow_pos (by decide)
theorem rep_sign {x : UInt64} {s : Bool} {m : Nat} {e : Int} {p d : Int} (hx : decode x = .fin s m e) (h : Rep x p d) (hd : 0 < d) : p = sgn s p.natAbs := by
  have hv := val_eq hx
  have h2 := h.2
  have hZ := Zpos
  generalize (2 : Int) ^ 1074 = Z at *
  cases s with
  | false =>
    have : 0 ≤ val x := by rw [hv]; unfold sgn; simp; exact Int.natCast_nonneg _
    have h3 : 0 ≤ p * Z := by rw [← h2]; exact Int.mul_nonneg this (Int.le_of_lt hd)
    have h4 : 0 ≤ p := by
      rcases Int.lt_or_le p 0 with h | h
      · have := Int.mul_neg_of_neg_of_pos h hZ; omega
      · exact h
    unfold sgn; simp; omega
  | true =>
    have : val x ≤ 0 := by rw [hv]; unfold sgn; simp only [if_true]; omega
    have h3 : p * Z ≤ 0 := by rw [← h2]; exact Int.mul_nonpos_of_nonpos_of_nonneg this (Int.le_of_lt hd)
    have h4 : p ≤ 0 := by
      rcases Int.lt_or_le 0 p with h | h
      · have := Int.mul_pos h hZ; omega
      · exact h
    unfold sgn; simp; omega
theorem rep_zero (s : Bool) (d : Int) : Rep (zero s) 0 d := by
  have hz : decode (zero s) = .fin s 0 (-1074) := by cases s <;> (with_unfolding_all rfl)
  refine ⟨⟨_, _, _, hz⟩, ?_⟩
  rw [val_eq hz]; simp only [Nat.zero_mul]; cases s <;> simp [sgn]
theorem abs_mul_of {u d p Z : Int} (hd : 0 < d) (hZ : 0 < Z) (h : u * d = p * Z) : (u.natAbs : Int) * d = p.natAbs * Z := by
  have := congrArg Int.natAbs h
  rw [Int.natAbs_mul, Int.natAbs_mul] at this
  have h2 : ((u.natAbs * d.natAbs : Nat) : Int) = ((p.natAbs * Z.natAbs : Nat) : Int) := by rw [this]
  rw [Int.natCast_mul, Int.natCast_mul] at h2
  rw [show (d.natAbs : Int) = d by omega, show (Z.natAbs : Int) = Z by omega] at h2
  exact h2
theorem Rep.add {x y : UInt64} {a b d : Int} (hx : Rep x a d) (hy : Rep y b d) (p : P2 d) (hc : (a + b).natAbs ≤ 2 ^ 53) : Rep (Float64.add x y) (a + b) d := by
  obtain ⟨⟨s1, m1, e1, h1⟩, v1⟩ := hx
  obtain ⟨⟨s2, m2, e2, h2⟩, v2⟩ := hy
  have R := add_right h1 h2
  have hd := p.pos
  have hZ := Zpos
  have hv : (val x + val y) * d = (a + b) * 2 ^ 1074 := by rw [Int.add_mul, Int.add_mul, v1, v2]
  by_cases h0 : val x + val y = 0
  · rw [R.1 h0]
    have : a + b = 0 := by
      rw [h0, Int.zero_mul] at hv
      rcases Int.mul_eq_zero.mp hv.symm with h | h
      · exact h
      · omega
    rw [this]; exact rep_zero _ _
  · refine rep_of_right (R.2 h0) (by decide) p hc ?_ ?_
    · conv => lhs; rw [sgn_self (a + b)]
      congr 1
      apply decide_eq_decide.mpr
      generalize (2 : Int) ^ 1074 = Z at *
      constructor
      · intro h
        rcases Int.lt_or_le (val x + val y) 0 with g | g
        · exact g
        · have := Int.mul_nonneg g (Int.le_of_lt hd); have := Int.mul_neg_of_neg_of_pos h hZ; omega
      · intro h
        rcases Int.lt_or_le (a + b) 0 with g | g
        · exact g
        · have := Int.mul_neg_of_neg_of_pos h hd; have := Int.mul_nonneg g (Int.le_of_lt hZ); omega
    · rw [abs_mul_of hd hZ hv, Int.natCast_one, Int.mul_one]
theorem Rep.neg {x : UInt64} {a d : Int} (hx : Rep x a d) : Rep (Float64.neg x) (-a) d := by
  obtain ⟨⟨s1, m1, e1, h1⟩, v1⟩ := hx
  exact ⟨⟨_, _, _, neg_decode h1⟩, by rw [neg_val h1, Int.neg_mul, v1, Int.neg_mul]⟩
theorem Rep.sub {x y : UInt64} {a b d : Int} (hx : Rep x a d) (hy : Rep y b d) (p : P2 d) (hc : (a - b).natAbs ≤ 2 ^ 53) : Rep (Float64.sub x y) (a - b) d := by
  unfold Float64.sub
  exact hx.add hy.neg p hc
theorem Rep.mul {x y : UInt64} {a b d e : Int} (hx : Rep x a d) (hy : Rep y b e) (hd : 0 < d) (he : 0 < e) (p : P2 (d * e)) (hc : (a * b).natAbs ≤ 2 ^ 53) : Rep (Float64.mul x y) (a * b) (d * e) := by
  have hx' := hx
  have hy' := hy
  obtain ⟨⟨s1, m1, e1, h1⟩, v1⟩ := hx
  obtain ⟨⟨s2, m2, e2, h2⟩, v2⟩ := hy
  have R := mul_right h1 h2
  have q1 := rep_sign h1 hx' hd
  have q2 := rep_sign h2 hy' he
  have w1 := abs_mul_of hd Zpos v1
  have w2 := abs_mul_of he Zpos v2
  refine rep_of_right R (Nat.two_pow_pos _) p hc ?_ ?_
  · rw [Int.natAbs_mul]
    conv => lhs; rw [q1, q2]
    generalize a.natAbs = u; generalize b.natAbs = v
    cases s1 <;> cases s2 <;> simp [sgn, Int.neg_mul, Int.mul_neg]
  · rw [Int.natAbs_mul]
    simp only [Int.natCast_mul, Int.natCast_pow, Int.cast_ofNat_Int]
    generalize (2 : Int) ^ 1074 = Z at *
    calc (val x).natAbs * (val y).natAbs * (d * e) = ((val x).natAbs * d) * ((val y).natAbs * e) := by ac_rfl
      _ = (a.natAbs * Z) * (b.natAbs * Z) := by rw [w1, w2]
      _ = a.natAbs * b.natAbs * Z * Z := by ac_rfl
theorem Rep.div {x y : UInt64} {a b c d e f : Int} (hx : Rep x a d) (hy : Rep y b e) (hd : 0 < d) (he : 0 < e) (hb : b ≠ 0) (p : P2 f) (hc : c.natAbs ≤ 2 ^ 53) (q : a * e * f = c * b * d) : Rep (Float64.div x y) c f := by
  have hx' := hx
  have hy' := hy
  obtain ⟨⟨s1, m1, e1, h1⟩, v1⟩ := hx
  obtain ⟨⟨s2, m2, e2, h2⟩, v2⟩ := hy
  have hf := p.pos
  have hvy : val y ≠ 0 := by
    intro h
    rw [h, Int.zero_mul] at v2
    rcases Int.mul_eq_zero.mp v2.symm with g | g
    · exact hb g
    · exact absurd g (Int.ne_of_gt Zpos)
  have hm2 : m2 ≠ 0 := by
    rintro rfl
    apply hvy
    rw [val_eq h2, Nat.zero_mul]; cases s2 <;> rfl
  have R := div_right h1 h2 hm2
  have q1 := rep_sign h1 hx' hd
  have q2 := rep_sign h2 hy' he
  have w1 := abs_mul_of hd Zpos v1
  have w2 := abs_mul_of he Zpos v2
  have qa : (a.natAbs : Int) * e * f = c.natAbs * b.natAbs * d := by
    have := congrArg Int.natAbs q
    simp only [Int.natAbs_mul] at this
    have h2 : ((a.natAbs * e.natAbs * f.natAbs : Nat) : Int) = ((c.natAbs * b.natAbs * d.natAbs : Nat) : Int) := by rw [this]
    simp only [Int.natCast_mul] at h2
    rw [show (d.natAbs : Int) = d by omega, show (e.natAbs : Int) = e by omega, show (f.natAbs : Int) = f by omega] at h2
    exact h2
  have hDy : 0 < (val y).natAbs := by omega
  refine rep_of_right R hDy p hc ?_ ?_
  · -- the sign
    have hef : 0 < e * f := Int.mul_pos he hf
    rw [Int.mul_assoc] at q
    generalize e * f = g at *
    have ha0 : a = 0 → c = 0 := by
      rintro rfl
      rw [Int.zero_mul] at q
      rcases Int.mul_eq_zero.mp q.symm with h | h
      · rcases Int.mul_eq_zero.mp h with h | h
        · exact h
        · exact absurd h hb
      · omega
    by_cases hc0 : c = 0
    · subst hc0; cases s1 <;> cases s2 <;> rfl
    have hane : a ≠ 0 := by
      rintro rfl
      exact hc0 (ha0 rfl)
    have sa : s1 = decide (a < 0) := by
      cases s1 <;> simp [sgn] at q1 ⊢ <;> omega
    have sb : s2 = decide (b < 0) := by
      cases s2 <;> simp [sgn] at q2 ⊢ <;> omega
    have key : (c < 0) ↔ ¬ ((a < 0) ↔ (b < 0)) := by
      rcases Int.lt_or_gt_of_ne hane with ha | ha <;> rcases Int.lt_or_gt_of_ne hb with hb' | hb' <;> rcases Int.lt_or_gt_of_ne hc0 with hc' | hc'
      · exfalso; have := Int.mul_neg_of_neg_of_pos ha hef; have := Int.mul_pos (Int.mul_pos_of_neg_of_neg hc' hb') hd; omega
      · constructor <;> intro <;> omega
      · constructor <;> intro <;> omega
      · exfalso; have := Int.mul_neg_of_neg_of_pos ha hef; have := Int.mul_pos (Int.mul_pos hc' hb') hd; omega
      · constructor <;> intro <;> omega
      · exfalso; have := Int.mul_pos ha hef; have := Int.mul_neg_of_neg_of_pos (Int.mul_neg_of_pos_of_neg hc' hb') hd; omega
      · exfalso; have := Int.mul_pos ha hef; have := Int.mul_neg_of_neg_of_pos (Int.mul_neg_of_neg_of_pos hc' hb') hd; omega
      · constructor <;> intro <;> omega
    conv => lhs; rw [sgn_self c]
    rw [sa, sb]
    congr 1
    by_cases h1 : a < 0 <;> by_cases h2 : b < 0 <;> simp [h1, h2] at key ⊢ <;> omega
  · simp only [Int.natCast_mul, Int.natCast_pow, Int.cast_ofNat_Int]
    have hde : d * e ≠ 0 := Int.ne_of_gt (Int.mul_pos hd he)
    refine Int.eq_of_mul_eq_mul_right hde ?_
    generalize (2 : Int) ^ 1074 = Z at *
    calc (val x).natAbs * Z * f * (d * e) = ((val x).natAbs * d) * Z * (e * f) := by ac_rfl
      _ = a.natAbs * Z * Z * (e * f) := by rw [w1]
      _ = (a.natAbs * e * f) * Z * Z := by ac_rfl
      _ = (c.natAbs * b.natAbs * d) * Z * Z := by rw [qa]
      _ = c.natAbs * Z * (b.natAbs * Z) * d := by ac_rfl
      _ = c.natAbs * Z * ((val y).natAbs * e) * d := by rw [w2]
      _ = c.natAbs * Z * (val y).natAbs * (d * e) := by ac_rfl
theorem compare_scale' (u v K : Int) (hK : 0 < K) : compare (u * K) (v * K) = compare u v := by
  rcases Int.lt_trichotomy u v with h | h | h
  · rw [Int.compare_eq_lt.mpr h, Int.compare_eq_lt.mpr (Int.mul_lt_mul_of_pos_right h hK)]
  · subst h; simp
  · rw [Int.compare_eq_gt.mpr h, Int.compare_eq_gt.mpr (Int.mul_lt_mul_of_pos_right h hK)]
theorem Rep.cmp {x y : UInt64} {a b d : Int} (hx : Rep x a d) (hy : Rep y b d) (hd : 0 < d) : Float64.cmp x y = some (compare a b) := by
  obtain ⟨⟨s1, m1, e1, h1⟩, v1⟩ := hx
  obtain ⟨⟨s2, m2, e2, h2⟩, v2⟩ := hy
  rw [cmp_right h1 h2, ← compare_scale' _ _ d hd, v1, v2, compare_scale' _ _ _ Zpos]
theorem Rep.eq? {x y : UInt64} {a b d : Int} (hx : Rep x a d) (hy : Rep y b d) (hd : 0 < d) : (Float64.cmp x y == some .eq) = decide (a = b) := by
  rw [hx.cmp hy hd]
  rcases Int.lt_trichotomy a b with h | h | h
  · rw [Int.compare_eq_lt.mpr h]; simp; omega
  · subst h; simp
  · rw [Int.compare_eq_gt.mpr h]; simp; omega
theorem Rep.lt? {x y : UInt64} {a b d : Int} (hx : Rep x a d) (hy : Rep y b d) (hd : 0 < d) : (Float64.cmp x y == some .lt) = decide (a < b) := by
  rw [hx.cmp hy hd]
  rcases Int.lt_trichotomy a b with h | h | h
  · rw [Int.compare_eq_lt.mpr h]; simp; omega
  · subst h; simp
  · rw [Int.compare_eq_gt.mpr h]; simp; omega
theorem rep_ofInt {n : Int} (h : n.natAbs ≤ 2 ^ 53) : Rep (Float64.ofInt n) n 1 := by
  have := rep_ofFrac (a := n) (b := 1) (c := n) (d := 1) (by decide) ⟨0, by decide, rfl⟩ h rfl
  unfold Float64.ofInt
  simpa using this
theorem Rep.trunc {x : UInt64} {a d : Int} {s : Bool} {m : Nat} {e : Int} (h1 : decode x = .fin s m e) (hx : Rep x a d) (hd : 0 < d) (ha : 0 ≤ a) : truncOf s m e = a / d := by
  have v1 := hx.2
  have hs := rep_sign h1 hx hd
  have he := decode_ge h1
  cases s with
  | true =>
    have ha0 : a = 0 := by simp [sgn] at hs; omega
    subst ha0
    rw [Int.zero_mul] at v1
    have hv : val x = 0 := by
      rcases Int.mul_eq_zero.mp v1 with h | h
      · exact h
      · omega
    rw [val_eq h1] at hv
    have hm : m * 2 ^ (e + 1074).toNat = 0 := by
      unfold sgn at hv; simp only [if_true] at hv; omega
    have hm0 : m = 0 := by
      rcases Nat.mul_eq_zero.mp hm with h | h
      · exact h
      · exact absurd h (Nat.ne_of_gt (Nat.two_pow_pos _))
    subst hm0
    unfold truncOf ceilOf floorOf
    simp [sgn]
  | false =>
    rw [val_eq h1] at v1
    have hsg : ∀ k : Nat, sgn false k = (k : Int) := fun k => rfl
    rw [hsg] at v1
    unfold truncOf floorOf
    simp only [Bool.false_eq_true, if_false, hsg]
    by_cases h0 : 0 ≤ e
    · rw [if_pos h0]
      have e1 : (e + 1074).toNat = e.toNat + 1074 := by omega
      rw [e1, Nat.pow_add] at v1
      simp only [Int.natCast_mul, Int.natCast_pow, Int.cast_ofNat_Int] at v1
      have hZ := Zpos
      generalize (2 : Int) ^ 1074 = Z at *
      generalize (2 : Int) ^ e.toNat = T at *
      have : (m : Int) * T * d = a := by
        refine Int.eq_of_mul_eq_mul_right (Int.ne_of_gt hZ) ?_
        rw [← v1]; ac_rfl
      rw [← this, Int.mul_ediv_cancel _ (Int.ne_of_gt hd)]
    · rw [if_neg h0]
      have e1 : (2 : Int) ^ 1074 = 2 ^ (-e).toNat * 2 ^ (e + 1074).toNat := by rw [← Int.pow_add]; congr 1; omega
      have hP : (0 : Int) < 2 ^ (-e).toNat := Int.pow_pos (by decide)
      have hT : (0 : Int) < 2 ^ (e + 1074).toNat := Int.pow_pos (by decide)
      rw [e1] at v1
      simp only [Int.natCast_mul, Int.natCast_pow, Int.cast_ofNat_Int] at v1
      generalize (2 : Int) ^ (-e).toNat = P at *
      generalize (2 : Int) ^ (e + 1074).toNat = T at *
      have h3 : (m : Int) * d = a * P := by
        refine Int.eq_of_mul_eq_mul_right (Int.ne_of_gt hT) ?_
        calc (m : Int) * d * T = m * T * d := by ac_rfl
          _ = a * (P * T) := v1
          _ = a * P * T := by ac_rfl
      rw [Int.fdiv_eq_ediv_of_nonneg _ (Int.le_of_lt hP)]
      rw [← Int.mul_ediv_mul_of_pos_left (m : Int) P hd, h3, Int.mul_comm P d, Int.mul_ediv_mul_of_pos_left a d hP]
end
end Mine
namespace Mine
section
open PySem PySem.Float64
theorem abs_decode {y : UInt64} {b : Bool} {k : Nat} {f : Int} (h : decode y = .fin b k f) : decode (Float64.abs y) = .fin false k f := by
  have hnan : Float64.isNaN y = false := by unfold Float64.isNaN; rw [h]
  have hN : (Float64.abs y).toNat = y.toNat % 2 ^ 63 := by
    unfold Float64.abs
    rw [if_neg (by simp [hnan]), pack_toNat false (Nat.mod_lt _ (by decide))]
    simp
  have h2 : (Float64.abs y).toNat / 2 ^ 52 % 2048 = y.toNat / 2 ^ 52 % 2048 := by omega
  have h3 : (Float64.abs y).toNat % 2 ^ 52 = y.toNat % 2 ^ 52 := by omega
  have h4 : ((Float64.abs y).toNat / 2 ^ 63 == 1) = false := by
    have : (Float64.abs y).toNat / 2 ^ 63 = 0 := by omega
    rw [this]; rfl
  unfold decode at h ⊢
  simp only [h2, h3, h4] at h ⊢
  split at h
  · split at h <;> cases h
  · rename_i h1
    rw [if_neg h1]
    split at h
    · rename_i h4
      rw [if_pos h4]
      cases h
      rfl
    · rename_i h4
      rw [if_neg h4]
      cases h
      rfl
theorem Rep.abs {x : UInt64} {a d : Int} (hx : Rep x a d) (hd : 0 < d) : Rep (Float64.abs x) (a.natAbs : Int) d := by
  obtain ⟨⟨s1, m1, e1, h1⟩, v1⟩ := hx
  refine ⟨⟨_, _, _, abs_decode h1⟩, ?_⟩
  have w := abs_mul_of hd Zpos v1
  have : val (Float64.abs x) = ((val x).natAbs : Int) := by
    rw [val_eq (abs_decode h1), val_natAbs h1]; rfl
  rw [this, w]
theorem ofBin_right (s : Bool) (M : Nat) (g : Int) (hg : -1074 ≤ g) : Right (ofBin s M g) s (M * 2 ^ (g + 1074).toNat) 1 := by
  unfold ofBin
  refine ofFrac_right (shift_pos _ _ _ (by decide)) ?_ (by decide)
  have := shift_one M g 1074 (by omega)
  rw [Nat.mul_one]
  exact this
theorem Rep.fmod1 {x y : UInt64} {a d : Int} {s : Bool} {m : Nat} {e : Int} (h1 : decode x = .fin s m e) (hx : Rep x a d) (p : P2 d) (hy : Rep y 1 1) (hc : d ≤ 2 ^ 53) :
    Rep (Float64.fmod x y) (sgn s (a.natAbs % d.natAbs)) d := by
  have hd := p.pos
  have v1 := hx.2
  obtain ⟨⟨s2, k, f, h2⟩, v2⟩ := hy
  have he := decode_ge h1
  have hf := decode_ge h2
  rw [Int.mul_one, Int.one_mul] at v2
  have hk : k ≠ 0 := by
    rintro rfl
    rw [val_eq h2, Nat.zero_mul] at v2
    have := Zpos
    generalize (2 : Int) ^ 1074 = Z at *
    cases s2 <;> simp [sgn] at v2 <;> omega
  have hfm : Float64.fmod x y = ofBin s (m * 2 ^ (e - min e f).toNat % (k * 2 ^ (f - min e f).toNat)) (min e f) := by
    unfold Float64.fmod
    rw [h1, h2]
    simp only
    rw [if_neg (by simpa using hk)]
    simp only [align, sgn, Bool.false_eq_true, if_false, Int.toNat_natCast]
  rw [hfm]
  have R := ofBin_right s (m * 2 ^ (e - min e f).toNat % (k * 2 ^ (f - min e f).toNat)) (min e f) (by omega)
  have w1 := abs_mul_of hd Zpos v1
  rw [val_natAbs h1] at w1
  have w2 : k * 2 ^ (f + 1074).toNat = 2 ^ 1074 := by
    have := congrArg Int.natAbs v2
    rw [val_natAbs h2, Int.natAbs_pow] at this
    exact this
  have e1 : (e + 1074).toNat = (e - min e f).toNat + (min e f + 1074).toNat := by omega
  have e2 : (f + 1074).toNat = (f - min e f).toNat + (min e f + 1074).toNat := by omega
  rw [e1, Nat.pow_add, ← Nat.mul_assoc] at w1
  rw [e2, Nat.pow_add, ← Nat.mul_assoc] at w2
  have hT : 0 < 2 ^ (min e f + 1074).toNat := Nat.two_pow_pos _
  generalize 2 ^ (min e f + 1074).toNat = T at *
  generalize hpp : m * 2 ^ (e - min e f).toNat = P at *
  generalize hqq : k * 2 ^ (f - min e f).toNat = Q at *
  have hdn : (d.natAbs : Int) = d := by omega
  have hdpos : 0 < d.natAbs := by omega
  -- in Nat
  have w1' : P * d.natAbs = a.natAbs * Q := by
    have h3 : P * T * d.natAbs = a.natAbs * (Q * T) := by
      rw [w2]
      have hZZ : (2 : Int) ^ 1074 = ((2 ^ 1074 : Nat) : Int) := (Int.natCast_pow 2 1074).symm
      rw [hZZ] at w1
      generalize (2 : Nat) ^ 1074 = Z at *
      have : ((P * T * d.natAbs : Nat) : Int) = ((a.natAbs * Z : Nat) : Int) := by
        simp only [Int.natCast_mul, hdn] at w1 ⊢
        exact w1
      exact Int.ofNat.inj this
    refine Nat.eq_of_mul_eq_mul_right hT ?_
    calc P * d.natAbs * T = P * T * d.natAbs := by ac_rfl
      _ = a.natAbs * (Q * T) := h3
      _ = a.natAbs * Q * T := by ac_rfl
  have hmod : P % Q * d.natAbs = a.natAbs % d.natAbs * Q := by
    rw [← Nat.mul_mod_mul_right, w1', Nat.mul_comm Q d.natAbs, Nat.mul_mod_mul_right]
  have hlt : a.natAbs % d.natAbs < d.natAbs := Nat.mod_lt _ hdpos
  refine rep_of_right R (by decide) p ?_ ?_ ?_
  · rw [sgn_natAbs]; omega
  · rw [sgn_natAbs]
  · rw [sgn_natAbs, Int.natCast_one, Int.mul_one]
    have hZZ : (2 : Int) ^ 1074 = ((2 ^ 1074 : Nat) : Int) := (Int.natCast_pow 2 1074).symm
    rw [hZZ]
    generalize (2 : Nat) ^ 1074 = Z at *
    generalize a.natAbs % d.natAbs = r at *
    have : P % Q * T * d.natAbs = r * Z := by
      rw [← w2]
      calc P % Q * T * d.natAbs = P % Q * d.natAbs * T := by ac_rfl
        _ = r * Q * T := by rw [hmod]
        _ = r * (Q * T) := by ac_rfl
    have := congrArg (fun z : Nat => (z : Int)) this
    simp only [Int.natCast_mul, hdn] at this ⊢
    exact this
theorem Rep.isZero {x : UInt64} {a d : Int} (hx : Rep x a d) (hd : 0 < d) : Float64.isZero x = decide (a = 0) := by
  obtain ⟨⟨s1, m1, e1, h1⟩, v1⟩ := hx
  rw [PySem.Flt.isZero_eq, cmpInt_right h1, Int.zero_mul]
  have hZ := Zpos
  generalize (2 : Int) ^ 1074 = Z at *
  have hiff : val x = 0 ↔ a = 0 := by
    constructor
    · intro h; rw [h, Int.zero_mul] at v1
      rcases Int.mul_eq_zero.mp v1.symm with g | g
      · exact g
      · omega
    · rintro rfl; rw [Int.zero_mul] at v1
      rcases Int.mul_eq_zero.mp v1 with g | g
      · exact g
      · omega
  rcases Int.lt_trichotomy (val x) 0 with h | h | h
  · rw [Int.compare_eq_lt.mpr h]
    have : a ≠ 0 := fun g => by have := hiff.mpr g; omega
    simp [this]
  · rw [h]; simp [hiff.mp h]
  · rw [Int.compare_eq_gt.mpr h]
    have : a ≠ 0 := fun g => by have := hiff.mpr g; omega
    simp [this]
theorem rep_one : Rep 4607182418800017408 1 1 := by
  have := rep_ofInt (n := 1) (by decide)
  have e : Float64.ofInt 1 = 4607182418800017408 := by decide +kernel
  rwa [e] at this
theorem Rep.mod1 {x : UInt64} {a d : Int} (hx : Rep x a d) (p : P2 d) (hc : d ≤ 2 ^ 52) : Rep (Float64.divmod x 4607182418800017408).2 (a % d) d := by
  have hd := p.pos
  obtain ⟨⟨s, m, e, h1⟩, v1⟩ := hx
  have hs := rep_sign h1 ⟨⟨s, m, e, h1⟩, v1⟩ hd
  have R := Rep.fmod1 h1 ⟨⟨s, m, e, h1⟩, v1⟩ p rep_one (by omega)
  have hlt : a.natAbs % d.natAbs < d.natAbs := Nat.mod_lt _ (by omega)
  have hone : Rep 4607182418800017408 d d := by
    have := rep_one.scale d
    rwa [Int.one_mul] at this
  have hl1 : Float64.lt 4607182418800017408 (zero false) = false := by
    unfold Float64.lt
    rw [hone.lt? (rep_zero false d) hd]; simp; omega
  have hl2 : Float64.lt (Float64.fmod x 4607182418800017408) (zero false) = decide (sgn s (a.natAbs % d.natAbs) < 0) := by
    unfold Float64.lt
    rw [R.lt? (rep_zero false d) hd]
  have hcs : copysign (zero false) 4607182418800017408 = zero false := by decide +kernel
  have hz := R.isZero hd
  have e2 : (Float64.divmod x 4607182418800017408).2 = (if Float64.isZero (Float64.fmod x 4607182418800017408) then copysign (zero false) 4607182418800017408 else if Float64.lt 4607182418800017408 (zero false) != Float64.lt (Float64.fmod x 4607182418800017408) (zero false) then Float64.add (Float64.fmod x 4607182418800017408) 4607182418800017408 else Float64.fmod x 4607182418800017408) := by
    unfold Float64.divmod
    simp only
    split
    · rfl
    · split <;> rfl
  rw [e2, hz, hl1, hl2, hcs]
  have hdn : ((d.natAbs : Nat) : Int) = d := by omega
  have hmod : ((a.natAbs % d.natAbs : Nat) : Int) = (a.natAbs : Int) % d := by rw [Int.natCast_emod, hdn]
  generalize hr : a.natAbs % d.natAbs = r at *
  by_cases h0 : sgn s r = 0
  · rw [if_pos (by simpa using h0)]
    have hr0 : r = 0 := by cases s <;> simp [sgn] at h0 <;> omega
    have : a % d = 0 := by
      have h5 : (a.natAbs : Int) % d = 0 := by rw [← hmod, hr0]; rfl
      have h6 : d ∣ (a.natAbs : Int) := Int.dvd_of_emod_eq_zero h5
      exact Int.emod_eq_zero_of_dvd (Int.dvd_natAbs.mp h6)
    rw [this]; exact rep_zero _ _
  · rw [if_neg (by simpa using h0)]
    cases s with
    | false =>
      have ha : a = (a.natAbs : Int) := by simpa [sgn] using hs
      have : a % d = (r : Int) := by rw [hmod, ← ha]
      simp only [sgn, Bool.false_eq_true, if_false] at R ⊢
      rw [if_neg (by simp), this]
      exact R
    | true =>
      have ha : a = -(a.natAbs : Int) := by simpa [sgn] using hs
      have hr0 : 0 < r := by simp [sgn] at h0; omega
      have : a % d = -(r : Int) + d := by
        have h7 := Int.emod_def (a.natAbs : Int) d
        rw [← hmod] at h7
        generalize (a.natAbs : Int) / d = q at h7
        have h8 : a = (-(r : Int) + d) + d * (-q - 1) := by
          rw [Int.mul_sub, Int.mul_neg]; omega
        rw [h8, Int.add_mul_emod_self_left]
        exact Int.emod_eq_of_lt (by omega) (by omega)
      simp only [sgn, if_true] at R ⊢
      rw [if_pos (by simp; omega), this]
      exact R.add hone p (by omega)
theorem rep_nil (d : Int) : Rep 0 0 d := rep_zero false d
theorem sumBits_rep {d : Int} (p : P2 d) : ∀ (bs : List UInt64) (as : List Int) (t c : UInt64) (T : Int), Paired (fun x a => Rep x a d) bs as → Rep t T d → Rep c 0 d → 0 ≤ T → (∀ a ∈ as, 0 ≤ a) → T + as.sum ≤ 2 ^ 53 →
    Rep (PySem.Flt.sumBits bs t c) (T + as.sum) d
  | _, _, t, c, T, .nil, ht, hc, _, _, _ => by
    unfold PySem.Flt.sumBits
    unfold PySem.W.Num.settled
    rw [hc.isZero p.pos]
    simpa using ht
  | _, _, t, c, T, .cons (a := x) (b := a) (l₁ := bs) (l₂ := as) hx h, ht, hc, h0, hn, hs => by
    have hd := p.pos
    have ha := hn a (List.mem_cons_self ..)
    have hn' : ∀ b ∈ as, 0 ≤ b := fun b hb => hn b (List.mem_cons_of_mem _ hb)
    have hsum : 0 ≤ as.sum := by
      clear hs h
      induction as with
      | nil => simp
      | cons b r ih =>
        have := hn' b (List.mem_cons_self ..)
        have := ih (fun c hc => by
          rcases List.mem_cons.mp hc with rfl | hc
          · exact ha
          · exact hn c (List.mem_cons_of_mem _ (List.mem_cons_of_mem _ hc))) fun c hc => hn' c (List.mem_cons_of_mem _ hc)
        simp only [List.sum_cons]; omega
    simp only [List.sum_cons] at hs ⊢
    unfold PySem.Flt.sumBits
    have h1 := ht.add hx p (by omega)
    have h2 : Rep (Float64.add (Float64.sub x (Float64.add t x)) t) 0 d := by
      have := (hx.sub h1 p (by omega)).add ht p (by omega)
      rwa [show a - (T + a) + T = 0 by omega] at this
    have h3 : Rep (Float64.add (Float64.sub t (Float64.add t x)) x) 0 d := by
      have := (ht.sub h1 p (by omega)).add hx p (by omega)
      rwa [show T - (T + a) + a = 0 by omega] at this
    have h4 : ∀ b : Bool, Rep (Float64.add c (if b = true then Float64.add (Float64.sub x (Float64.add t x)) t else Float64.add (Float64.sub t (Float64.add t x)) x)) 0 d := by
      intro b
      cases b
      · exact hc.add h3 p (by decide)
      · exact hc.add h2 p (by decide)
    rw [← Int.add_assoc]
    exact sumBits_rep p bs as _ _ (T + a) h h1 (h4 _) (by omega) hn' (by omega)
theorem sumOf_rep {d : Int} (p : P2 d) {bs : List UInt64} {as : List Int} (h : Paired (fun x a => Rep x a d) bs as) (hn : ∀ a ∈ as, 0 ≤ a) (hs : as.sum ≤ 2 ^ 53) : Rep (PySem.Flt.sumOf bs) as.sum d := by
  cases h with
  | nil => exact rep_nil d
  | cons hx h =>
    rename_i x a bs as
    have ha := hn a (List.mem_cons_self ..)
    have h0 : Rep (Float64.ofInt 0) 0 d := by
      have := (rep_ofInt (n := 0) (by decide)).scale d
      rwa [Int.zero_mul, Int.one_mul] at this
    have hsum : 0 ≤ as.sum := by
      clear hs h
      induction as with
      | nil => simp
      | cons b r ih =>
        have := hn b (List.mem_cons_of_mem _ (List.mem_cons_self ..))
        have := ih fun c hc => by
          rcases List.mem_cons.mp hc with rfl | hc
          · exact ha
          · exact hn c (List.mem_cons_of_mem _ (List.mem_cons_of_mem _ hc))
        simp only [List.sum_cons]; omega
    simp only [List.sum_cons] at hs ⊢
    have h1 := h0.add hx p (by omega)
    have := sumBits_rep p bs as _ _ _ h h1 (rep_nil d) (by omega) (fun b hb => hn b (List.mem_cons_of_mem _ hb)) (by omega)
    rw [Int.zero_add] at this
    exact this
end
end Mine
namespace Mine
section
/-- an int -/
def IsI (v : Value) (a : Int) : Prop := ∃ t, v = .int a t
/-- a double worth a / d -/
def IsF (d : Int) (v : Value) (a : Int) : Prop := ∃ x t, v = .float x t ∧ t ≠ 0 ∧ Rep x a d
def srt (as : List Int) : List Int := as.mergeSort fun a b => decide (a ≤ b)
theorem srt_perm (as : List Int) : (srt as).Perm as := List.mergeSort_perm _ _
theorem srt_sorted (as : List Int) : (srt as).Pairwise (· ≤ ·) := by
  have := List.pairwise_mergeSort (le := fun a b : Int => decide (a ≤ b)) (by intro a b c h1 h2; simp only [decide_eq_true_eq] at *; omega) (by intro a b; simp only [Bool.or_eq_true, decide_eq_true_eq]; omega) as
  exact this.imp fun h => by simpa using h
theorem srt_unique {as bs : List Int} (h : bs.Perm as) (hs : bs.Pairwise (· ≤ ·)) : bs = srt as :=
  List.Perm.eq_of_pairwise (le := fun a b : Int => a ≤ b) (fun a b _ _ h1 h2 => by omega) hs (srt_sorted as) (h.trans (srt_perm as).symm)
theorem srt_length (as : List Int) : (srt as).length = as.length := (srt_perm as).length_eq
section
variable {prog : Program} {w : World} {A : Around} {E : Value → Shared → Prop} {s : Shared} {Q : Value → Shared → Prop}
theorem minI {a b : Int} {t u : Tok} (hh : A.handled = none) (ht : 1 ≤ s.toks) (h : ∀ t' h' tk, 1 ≤ tk → s.heap.StaysIn h' → Q (.int (min a b) t') { s with heap := h', toks := tk }) : wpAny (model prog w) A (call (.builtin "min") [.int a t, .int b u]) Q E s := by
  refine wpAny_with_toks (n := 1) ht (PySem.Flt.min_two_num hh (.int a t) (.int b u) fun h' tk k ht' => ?_)
  by_cases c : b < a
  · rw [show PySem.Flt.ltV (.int b u) (.int a t) = true from by simp [PySem.Flt.ltV, c]]
    have := h u h' tk ht' k
    rw [show min a b = b by omega] at this
    exact this
  · rw [show PySem.Flt.ltV (.int b u) (.int a t) = false from by simp [PySem.Flt.ltV]; omega]
    have := h t h' tk ht' k
    rw [show min a b = a by omega] at this
    exact this
theorem maxI {a b : Int} {t u : Tok} (hh : A.handled = none) (ht : 1 ≤ s.toks) (h : ∀ t' h' tk, 1 ≤ tk → s.heap.StaysIn h' → Q (.int (max a b) t') { s with heap := h', toks := tk }) : wpAny (model prog w) A (call (.builtin "max") [.int a t, .int b u]) Q E s := by
  refine wpAny_with_toks (n := 1) ht (PySem.Flt.max_two_num hh (.int a t) (.int b u) fun h' tk k ht' => ?_)
  by_cases c : a < b
  · rw [show PySem.Flt.ltV (.int a t) (.int b u) = true from by simp [PySem.Flt.ltV, c]]
    have := h u h' tk ht' k
    rw [show max a b = b by omega] at this
    exact this
  · rw [show PySem.Flt.ltV (.int a t) (.int b u) = false from by simp [PySem.Flt.ltV]; omega]
    have := h t h' tk ht' k
    rw [show max a b = a by omega] at this
    exact this
theorem best3 {d a b c : Int} {x y z : UInt64} {t u v : Tok} (hd : 0 < d) (ht : t ≠ 0) (hu : u ≠ 0) (hv : v ≠ 0) (hx : Rep x a d) (hy : Rep y b d) (hz : Rep z c d) (r : Value)
    (h : (#[Value.float x t, .float y u, .float z v])[argBest (fun i j => PySem.Flt.ltV ((#[Value.float x t, .float y u, .float z v]).getD j .none) ((#[Value.float x t, .float y u, .float z v]).getD i .none)) 2]? = some r) : IsF d r (max a (max b c)) := by
  have l1 : PySem.Flt.ltV (.float x t) (.float y u) = decide (a < b) := hx.lt? hy hd
  have l2 : PySem.Flt.ltV (.float y u) (.float z v) = decide (b < c) := hy.lt? hz hd
  have l3 : PySem.Flt.ltV (.float x t) (.float z v) = decide (a < c) := hx.lt? hz hd
  by_cases c1 : a < b
  · by_cases c2 : b < c
    · simp [argBest, l1, l2, l3, c1, c2] at h
      exact ⟨z, v, h.symm, hv, by rwa [show max a (max b c) = c by omega]⟩
    · simp [argBest, l1, l2, l3, c1, c2] at h
      exact ⟨y, u, h.symm, hu, by rwa [show max a (max b c) = b by omega]⟩
  · by_cases c2 : a < c
    · simp [argBest, l1, l2, l3, c1, c2] at h
      exact ⟨z, v, h.symm, hv, by rwa [show max a (max b c) = c by omega]⟩
    · simp [argBest, l1, l2, l3, c1, c2] at h
      exact ⟨x, t, h.symm, ht, by rwa [show max a (max b c) = a by omega]⟩
theorem best3' {d a b c : Int} {x y z : UInt64} {t u v : Tok} (hd : 0 < d) (ht : t ≠ 0) (hu : u ≠ 0) (hv : v ≠ 0) (hx : Rep x a d) (hy : Rep y b d) (hz : Rep z c d) (r : Value)
    (h : (#[Value.float x t, .float y u, .float z v])[argBest (fun i j => PySem.Flt.ltV ((#[Value.float x t, .float y u, .float z v]).getD i .none) ((#[Value.float x t, .float y u, .float z v]).getD j .none)) 2]? = some r) : IsF d r (min a (min b c)) := by
  have l1 : PySem.Flt.ltV (.float y u) (.float x t) = decide (b < a) := hy.lt? hx hd
  have l2 : PySem.Flt.ltV (.float z v) (.float y u) = decide (c < b) := hz.lt? hy hd
  have l3 : PySem.Flt.ltV (.float z v) (.float x t) = decide (c < a) := hz.lt? hx hd
  by_cases c1 : b < a
  · by_cases c2 : c < b
    · simp [argBest, l1, l2, l3, c1, c2] at h
      exact ⟨z, v, h.symm, hv, by rwa [show min a (min b c) = c by omega]⟩
    · simp [argBest, l1, l2, l3, c1, c2] at h
      exact ⟨y, u, h.symm, hu, by rwa [show min a (min b c) = b by omega]⟩
  · by_cases c2 : c < a
    · simp [argBest, l1, l2, l3, c1, c2] at h
      exact ⟨z, v, h.symm, hv, by rwa [show min a (min b c) = c by omega]⟩
    · simp [argBest, l1, l2, l3, c1, c2] at h
      exact ⟨x, t, h.symm, ht, by rwa [show min a (min b c) = a by omega]⟩
theorem max3F {d a b c : Int} {x y z : UInt64} {t u v : Tok} (hh : A.handled = none) (h1 : 1 ≤ s.toks) (hd : 0 < d) (ht : t ≠ 0) (hu : u ≠ 0) (hv : v ≠ 0) (hx : Rep x a d) (hy : Rep y b d) (hz : Rep z c d)
    (h : ∀ r t' h' tk, 1 ≤ tk → t' ≠ 0 → s.heap.StaysIn h' → Rep r (max a (max b c)) d → Q (.float r t') { s with heap := h', toks := tk }) : wpAny (model prog w) A (call (.builtin "max") [.float x t, .float y u, .float z v]) Q E s := by
  have hT : (s.heap.push { cls := .type "tuple", data := .seq #[.float x t, .float y u, .float z v] }).IsTuple s.heap.objs.size #[.float x t, .float y u, .float z v] := ⟨_, Heap.get?_push_size _ rfl, rfl, 0, rfl⟩
  refine wpAny_with_toks (n := 1) h1 (call_max_three (wpAny_pyIter_tuple hT ?_))
  have hsz : (s.heap.push { cls := .type "tuple", data := .seq #[.float x t, .float y u, .float z v] }).objs.size = s.heap.objs.size + 1 := Heap.size_push ..
  refine ⟨_, [_, s.heap.objs.size], [_], _, _, _, _, rfl, Walks.tuple (A := A.in1) hh _ s.heap.objs.size (by rw [hsz]; exact Nat.ne_of_lt (Nat.lt_succ_self _)) #[.float x t, .float y u, .float z v],
    ⟨⟨_, Heap.get?_push_size _ rfl, rfl, rfl⟩, hT.push _⟩, fun c hc => ?_, by simp, PySem.Flt.cmpOf_gt #[.float x t, .float y u, .float z v] (by simp [PySem.Flt.NumV.float]), fun w h' tk hP hk h1' => ?_⟩
  · show c < ((s.heap.push _).push _).objs.size
    rw [Heap.size_push, hsz]
    rcases List.mem_cons.mp hc with rfl | hc
    · rw [hsz]; exact Nat.lt_succ_self _
    · rcases List.mem_cons.mp hc with rfl | hc
      · exact Nat.lt_succ_of_lt (Nat.lt_succ_self _)
      · cases hc
  · have hold : s.heap.StaysIn h' := fun c o e => by
      refine hk c o (fun hm => ?_) (Heap.get?_push_of_some _ (Heap.get?_push_of_some _ e))
      rcases List.mem_cons.mp hm with e1 | hm
      · have := Heap.lt_size e; rw [e1, hsz] at this; exact Nat.lt_irrefl _ (Nat.lt_of_succ_lt this)
      · cases hm
    obtain ⟨r, t', rfl, ht', hr⟩ := best3 hd ht hu hv hx hy hz w hP
    exact h r t' h' tk h1' ht' hold hr
theorem min3F {d a b c : Int} {x y z : UInt64} {t u v : Tok} (hh : A.handled = none) (h1 : 1 ≤ s.toks) (hd : 0 < d) (ht : t ≠ 0) (hu : u ≠ 0) (hv : v ≠ 0) (hx : Rep x a d) (hy : Rep y b d) (hz : Rep z c d)
    (h : ∀ r t' h' tk, 1 ≤ tk → t' ≠ 0 → s.heap.StaysIn h' → Rep r (min a (min b c)) d → Q (.float r t') { s with heap := h', toks := tk }) : wpAny (model prog w) A (call (.builtin "min") [.float x t, .float y u, .float z v]) Q E s := by
  have hT : (s.heap.push { cls := .type "tuple", data := .seq #[.float x t, .float y u, .float z v] }).IsTuple s.heap.objs.size #[.float x t, .float y u, .float z v] := ⟨_, Heap.get?_push_size _ rfl, rfl, 0, rfl⟩
  refine wpAny_with_toks (n := 1) h1 (call_min_three (wpAny_pyIter_tuple hT ?_))
  have hsz : (s.heap.push { cls := .type "tuple", data := .seq #[.float x t, .float y u, .float z v] }).objs.size = s.heap.objs.size + 1 := Heap.size_push ..
  refine ⟨_, [_, s.heap.objs.size], [_], _, _, _, _, rfl, Walks.tuple (A := A.in1) hh _ s.heap.objs.size (by rw [hsz]; exact Nat.ne_of_lt (Nat.lt_succ_self _)) #[.float x t, .float y u, .float z v],
    ⟨⟨_, Heap.get?_push_size _ rfl, rfl, rfl⟩, hT.push _⟩, fun c hc => ?_, by simp, PySem.Flt.cmpOf_lt #[.float x t, .float y u, .float z v] (by simp [PySem.Flt.NumV.float]), fun w h' tk hP hk h1' => ?_⟩
  · show c < ((s.heap.push _).push _).objs.size
    rw [Heap.size_push, hsz]
    rcases List.mem_cons.mp hc with rfl | hc
    · rw [hsz]; exact Nat.lt_succ_self _
    · rcases List.mem_cons.mp hc with rfl | hc
      · exact Nat.lt_succ_of_lt (Nat.lt_succ_self _)
      · cases hc
  · have hold : s.heap.StaysIn h' := fun c o e => by
      refine hk c o (fun hm => ?_) (Heap.get?_push_of_some _ (Heap.get?_push_of_some _ e))
      rcases List.mem_cons.mp hm with e1 | hm
      · have := Heap.lt_size e; rw [e1, hsz] at this; exact Nat.lt_irrefl _ (Nat.lt_of_succ_lt this)
      · cases hm
    obtain ⟨r, t', rfl, ht', hr⟩ := best3' hd ht hu hv hx hy hz w hP
    exact h r t' h' tk h1' ht' hold hr
end
end
end Mine
namespace Mine
section
open PySem PySem.W PyProof.Rows PySem.Float64
def fkey : Value → Option Int
  | .float x _ => match decode x with | .fin .. => some (val x) | _ => none
  | _ => none
theorem fkey_some {v : Value} {a : Int} (h : fkey v = some a) : ∃ x t s m e, v = .float x t ∧ decode x = .fin s m e ∧ a = val x := by
  cases v with
  | float x t =>
    unfold fkey at h
    dsimp only at h
    split at h
    · rename_i s m e hd
      cases h
      exact ⟨x, t, s, m, e, rfl, hd, rfl⟩
    · cases h
  | _ => unfold fkey at h; cases h
theorem fkey_of {x : UInt64} {t : Tok} {a d : Int} (h : Rep x a d) : fkey (.float x t) = some (val x) := by
  obtain ⟨⟨s, m, e, hd⟩, _⟩ := h
  unfold fkey; dsimp only; rw [hd]
abbrev fKind : KeyKind where
  α := Int
  blt a b := decide (a < b)
  irrefl a := by simp
  trans a b c h1 h2 := by simp only [decide_eq_true_eq] at *; omega
  negTrans a b c h := by simp only [decide_eq_true_eq] at *; omega
  total a b h1 h2 := by simp only [decide_eq_false_iff_not] at *; omega
  keyOf := fkey
  dflt := 0
theorem fKind_oneLt : fKind.OneLt := by
  intro prog w A E s x y a b Q ha hb h
  obtain ⟨x, t, s1, m1, e1, rfl, h1, rfl⟩ := fkey_some ha
  obtain ⟨y, u, s2, m2, e2, rfl, h2, rfl⟩ := fkey_some hb
  rw [oneLt'_eq]
  simp only [if_true]
  refine wpAny_bind (wpAny_cRoomFor_byValue rfl ?_)
  refine wpAny_bind (wpAny_callSpecialIfBound?_slot (typeIs_float s x t) F.slot_float_lt (call_gives F.slot_float_lt (typeIs_float s x t) F.entry_float_lt (F.args_float_lt_2 _ _) (AutoFloatG5.float___lt___float_float_0 x t y u) ?_))
  have e : (Float64.cmp x y == some Ordering.lt) = decide (val x < val y) := by
    rw [cmp_right h1 h2]
    rcases Int.lt_trichotomy (val x) (val y) with g | g | g
    · rw [Int.compare_eq_lt.mpr g]; simp [g]
    · rw [g]; simp
    · rw [Int.compare_eq_gt.mpr g]; simp; omega
  have h' : Q (Float64.cmp x y == some Ordering.lt) s := by rw [e]; exact h
  exact wpAny_truthy_bool h'
/-- a kind of number that sorts -/
def Sorts (Is : Value → Int → Prop) : Prop :=
  ∀ {prog : Program} {w : World} {A : Around} {E : Value → Shared → Prop} {s : Shared} {l : Addr} {vs : List Value} {as : List Int} {Q : Value → Shared → Prop},
    s.heap.IsList l vs.toArray → Paired Is vs as → vs.length < 64 →
    (∀ D vs' h', s.heap.StaysIn h' → s.heap.get? D = none → h'.IsList D vs'.toArray → Paired Is vs' (srt as) → Q (.ref D) { s with heap := h' }) →
    wpAny (model prog w) A (call (.builtin "sorted") [.ref l]) Q E s
theorem paired_ints : ∀ {vs : List Value} {as : List Int}, Paired IsI vs as → IntsAre vs as
  | _, _, .nil => .nil
  | _, _, .cons ⟨t, e⟩ h => by subst e; exact .cons _ t (paired_ints h)
theorem ints_paired : ∀ {vs : List Value} {as : List Int}, IntsAre vs as → Paired IsI vs as
  | _, _, .nil => .nil
  | _, _, .cons n t h => .cons ⟨t, rfl⟩ (ints_paired h)
theorem fresh1 (h : Heap) {a : Addr} (ha : h.objs.size ≤ a) : h.get? a = none := by
  cases q : h.get? a with
  | none => rfl
  | some o => exact absurd (Heap.lt_size q) (Nat.not_lt.mpr ha)
theorem sorts_int : Sorts IsI := by
  intro prog w A E s l vs as Q hl hp h64 h
  refine sorted_ints hl (paired_ints hp) h64 fun out ns' a1 a2 a3 => ?_
  obtain ⟨e, he⟩ := sortedAll_at s.heap vs out
  have q := srt_unique a2 a3
  subst q
  exact h _ out.toList _ (fun _ _ => sortedAll_old) (fresh1 _ (Nat.le_succ _)) ⟨_, he, rfl, e, by simp [seqObj]⟩ (ints_paired a1)
theorem paired_mem {α β : Type} {F : α → β → Prop} : ∀ {l₁ : List α} {l₂ : List β}, Paired F l₁ l₂ → ∀ a ∈ l₁, ∃ b ∈ l₂, F a b
  | _, _, .nil, a, h => nomatch h
  | _, _, .cons (a := x) (b := y) f r, a, h => by
    rcases List.mem_cons.mp h with rfl | h
    · exact ⟨y, List.mem_cons_self .., f⟩
    · obtain ⟨b, hb, q⟩ := paired_mem r a h
      exact ⟨b, List.mem_cons_of_mem _ hb, q⟩
theorem paired_of_map {α β : Type} {F : α → β → Prop} (f : α → β) : ∀ (l : List α), (∀ a ∈ l, F a (f a)) → Paired F l (l.map f)
  | [], _ => .nil
  | a :: r, h => .cons (h a (List.mem_cons_self ..)) (paired_of_map f r fun b hb => h b (List.mem_cons_of_mem _ hb))
theorem map_of_paired {α β : Type} {F : α → β → Prop} (f : α → β) (hf : ∀ a b, F a b → f a = b) : ∀ {l₁ : List α} {l₂ : List β}, Paired F l₁ l₂ → l₁.map f = l₂
  | _, _, .nil => rfl
  | _, _, .cons q r => by rw [List.map_cons, hf _ _ q, map_of_paired f hf r]
/-- the number behind a double, in parts of 1 / d -/
def numF (d : Int) (v : Value) : Int := match v with | .float x _ => val x * d / 2 ^ 1074 | _ => 0
theorem numF_of {d a : Int} {v : Value} (h : IsF d v a) : numF d v = a := by
  obtain ⟨x, t, rfl, _, h1, h2⟩ := h
  unfold numF; dsimp only
  rw [h2, Int.mul_ediv_cancel _ (Int.ne_of_gt Zpos)]
theorem mapM_first_floats : ∀ {vs : List Value}, (∀ v ∈ vs, ∃ x t, v = .float x t) → vs.mapM firstOfTuple' = pure (vs.map fun _ => none)
  | [], _ => by simp
  | v :: r, h => by
    obtain ⟨x, t, rfl⟩ := h v (List.mem_cons_self ..)
    rw [List.mapM_cons, mapM_first_floats fun b hb => h b (List.mem_cons_of_mem _ hb)]
    show (pure none >>= fun b => pure _ >>= fun bs => pure (b :: bs)) = _
    simp
theorem mapM_typeOf_floats : ∀ {vs : List Value}, (∀ v ∈ vs, ∃ x t, v = .float x t) → vs.mapM typeOf = pure (vs.map fun _ => Value.type "float")
  | [], _ => by simp
  | v :: r, h => by
    obtain ⟨x, t, rfl⟩ := h v (List.mem_cons_self ..)
    rw [List.mapM_cons, mapM_typeOf_floats fun b hb => h b (List.mem_cons_of_mem _ hb)]
    show (pure (Value.type "float") >>= fun b => pure _ >>= fun bs => pure (b :: bs)) = _
    simp
theorem keyKind_floats {v₁ v₂ : Value} {vs : List Value} (hI : ∀ v ∈ (v₁ :: v₂ :: vs), ∃ x t, v = .float x t) : keyKind' (v₁ :: v₂ :: vs).toArray = pure oneType' := by
  rw [keyKind'_eq, List.mapM_toArray, mapM_first_floats hI]
  simp only [map_pure, pure_bind]
  rw [if_neg (by simp), if_neg (by simp)]
  rw [oneTypeOnly'_eq, List.mapM_toArray, mapM_typeOf_floats hI]
  simp only [map_pure, pure_bind]
  have hall : ((List.map (fun _ => Value.type "float") (v₁ :: v₂ :: vs)).toArray.all fun x => x == Value.type "float") = true := by
    simp only [List.all_toArray, List.all_map, List.all_eq_true]
    intro _ _
    rfl
  have h0 : (List.map (fun _ => Value.type "float") (v₁ :: v₂ :: vs)).toArray[0]? = some (Value.type "float") := by simp
  rw [h0]
  simp only [hall, if_true, pure_bind, Option.isSome_some]
theorem sorts_float {d : Int} (hd : 0 < d) : Sorts (IsF d) := by
  intro prog w A E s l vs as Q hl hp h64 h
  have hfl : ∀ v ∈ vs, ∃ x t, v = .float x t := fun v hv => by
    obtain ⟨a, _, x, t, e, _⟩ := paired_mem hp v hv
    exact ⟨x, t, e⟩
  have hRep : ∀ v ∈ vs, IsF d v (numF d v) := fun v hv => by
    obtain ⟨a, _, q⟩ := paired_mem hp v hv
    rwa [numF_of q]
  have hkeys : KeysOf fKind (pairsOf vs) := by
    intro p hp'
    rw [pairsOf_toList] at hp'
    obtain ⟨e, hm⟩ := mem_zip_self hp'
    obtain ⟨x, t, e2, _, q⟩ := hRep _ hm
    exact ⟨val x, (congrArg fkey e2).trans (fkey_of (t := t) q)⟩
  refine sortedK fKind_oneLt hl hkeys (fun v₁ v₂ rest e => keyKind_floats (e ▸ hfl)) h64 fun st' a1 a2 => ?_
  obtain ⟨e, he⟩ := sortedAll_at s.heap vs ((arrOf st').map (·.2))
  have hl : (arrOf st').toList.Perm (vs.zip vs) := by rw [← pairsOf_toList]; exact Array.perm_iff_toList_perm.mp a1
  have hmem : ∀ p, p ∈ (arrOf st').toList → p.1 = p.2 ∧ p.1 ∈ vs := fun p hp' => mem_zip_self (hl.mem_iff.mp hp')
  have hout : ((arrOf st').map (·.2)).toList = (arrOf st').toList.map (·.1) := by
    rw [Array.toList_map]; exact List.map_congr_left fun p hp' => (hmem p hp').1.symm
  have hperm : ((arrOf st').toList.map (·.1)).Perm vs := by
    have h1 := hl.map (fun p => p.1)
    have e2 : (vs.zip vs).map (fun p => p.1) = vs := List.map_fst_zip (Nat.le_refl _)
    rwa [e2] at h1
  have hnums : vs.map (numF d) = as := map_of_paired _ (fun _ _ q => numF_of q) hp
  have hsort : (((arrOf st').toList.map (·.1)).map (numF d)).Pairwise (· ≤ ·) := by
    rw [List.pairwise_iff_getElem]
    intro i j hi hj hij
    simp only [List.length_map, Array.length_toList] at hi hj
    have h1 := a2 i j (Nat.le_of_lt hij) (by rw [← a1.size_eq]; exact hj)
    simp only [List.getElem_map, Array.getElem_toList]
    obtain ⟨x, t, ex, _, qx⟩ := hRep _ (hmem ((arrOf st')[i]) (by simp)).2
    obtain ⟨y, u, ey, _, qy⟩ := hRep _ (hmem ((arrOf st')[j]) (by simp)).2
    have k1 : KK fKind (arrOf st') i = val x := by
      unfold KK; rw [getElem?_pos (arrOf st') i hi]
      show (fkey ((arrOf st')[i]).1).getD 0 = _
      rw [ex, fkey_of (t := t) qx]; rfl
    have k2 : KK fKind (arrOf st') j = val y := by
      unfold KK; rw [getElem?_pos (arrOf st') j hj]
      show (fkey ((arrOf st')[j]).1).getD 0 = _
      rw [ey, fkey_of (t := u) qy]; rfl
    rw [k1, k2] at h1
    change decide (val y < val x) = false at h1
    have h2 : val x ≤ val y := by simpa using h1
    have h3 : val x * d ≤ val y * d := Int.mul_le_mul_of_nonneg_right h2 (Int.le_of_lt hd)
    rw [qx.2, qy.2] at h3
    exact Int.le_of_mul_le_mul_right h3 Zpos
  have hu := srt_unique (as := as) (by rw [← hnums]; exact hperm.map _) hsort
  refine h _ ((arrOf st').toList.map (·.1)) _ (fun _ _ => sortedAll_old) (fresh1 _ (Nat.le_succ _)) ⟨_, he, rfl, e, ?_⟩ ?_
  · show Data.seq _ _ = Data.seq _ _
    rw [← hout]
  · rw [← hu]
    exact paired_of_map _ _ fun v hv => hRep v (hperm.mem_iff.mp hv)
end
end Mine
namespace Mine
section
theorem paired_get {α β : Type} {F : α → β → Prop} : ∀ {l₁ : List α} {l₂ : List β}, Paired F l₁ l₂ → ∀ (i : Nat) (a : α), l₁[i]? = some a → ∃ b, l₂[i]? = some b ∧ F a b
  | _, _, .nil, i, a, h => by simp at h
  | _, _, .cons f r, 0, a, h => by cases h; exact ⟨_, rfl, f⟩
  | _, _, .cons f r, i + 1, a, h => paired_get r i a h
theorem isList_new {h h' g' : Heap} {D : Addr} {its : Array Value} (n : h.get? D = none) (hl : h'.IsList D its) (k : ∀ b o, h.get? b = none → h'.get? b = some o → g'.get? b = some o) : g'.IsList D its :=
  let ⟨o, ho, r⟩ := hl; ⟨o, k _ _ n ho, r⟩
theorem stays_trans {a b c : Heap} (h1 : a.StaysIn b) (h2 : b.StaysIn c) : a.StaysIn c := fun x o e => h2 x o (h1 x o e)
section
variable {prog : Program} {w : World} {A : Around} {E : Value → Shared → Prop} {s : Shared} {Q : Value → Shared → Prop}
theorem lenL {l : Addr} {vs : List Value} (hl : s.heap.IsList l vs.toArray) (hn : vs.length < 2 ^ 20) (ht : 1 ≤ s.toks) (h : ∀ (n : Int) t tk, 1 ≤ tk → n = (vs.length : Int) → Q (.int n t) { s with toks := tk }) : wpAny (model prog w) A (call (.builtin "len") [.ref l]) Q E s := by
  refine PySem.Calls.call_len_list hl (by simp; omega) ?_
  exact h _ _ _ (by omega) (by simp)
theorem itemL {value slice : PySem.Expr} {l : Addr} {vs : List Value} {k : Int} {u : Tok} (hl : s.heap.IsList l vs.toArray) (h0 : 0 ≤ k) (h1 : k < (vs.length : Int)) (hn : vs.length < 2 ^ 20)
    (h : ∀ v, vs[k.toNat]? = some v → Q v s)
    (hs : subscripted slice false (.ref l) (.int k u) = operate [.ref l, .int k u] (getItem (.ref l) (.int k u)) := by with_unfolding_all rfl) :
    wpAny (model prog w) A (subscriptTail value slice (.ref l) (.int k u)) Q E s := by
  have hx : vs[k.toNat]? = some vs[k.toNat] := List.getElem?_eq_getElem (by omega)
  exact tail_any hl.typeIs slot_list_getitem.lookup (wpAny_getItem_list hl h0 (by omega) (by simpa using hx) (h _ hx)) hs
theorem itemT {value slice : PySem.Expr} {l : Addr} {vs : List Value} {k : Int} {u : Tok} (hl : IsTup s.heap l vs.toArray) (h0 : 0 ≤ k) (h1 : k < (vs.length : Int)) (hn : vs.length < 2 ^ 20)
    (h : ∀ v, vs[k.toNat]? = some v → Q v s)
    (hs : subscripted slice false (.ref l) (.int k u) = operate [.ref l, .int k u] (getItem (.ref l) (.int k u)) := by with_unfolding_all rfl) :
    wpAny (model prog w) A (subscriptTail value slice (.ref l) (.int k u)) Q E s := by
  have hx : vs[k.toNat]? = some vs[k.toNat] := List.getElem?_eq_getElem (by omega)
  refine item_tupleT (j := k.toNat) hl (by omega) (by omega) ?_ hx (h _ hx) hs
  simp only [seqIndex?, if_neg (show ¬ k < 0 by omega)]
  rw [if_pos (by simp; omega)]
end
end
end Mine
namespace Mine
section
open PySem PySem.W PyProof.Rows PySem.Float64
section
variable {prog : Program} {w : World} {A : Around} {E : Value → Shared → Prop} {s : Shared} {Q : Value → Shared → Prop}
theorem divI {a b : Int} {t u : Tok} (c d : Int) (hh : A.handled = none) (ht : 1 ≤ s.toks) (hb : b ≠ 0) (p : P2 d) (hc : c.natAbs ≤ 2 ^ 53) (q : a * d = c * b) (ha : a.natAbs < 2 ^ 60)
    (h : ∀ x t' tk, 1 ≤ tk → t' ≠ 0 → Rep x c d → Q (.float x t') { s with toks := tk }) : wpAny (model prog w) A (binaryOp .Div (.int a t) (.int b u)) Q E s :=
  PySem.Flt.div_ii_fits hh (Nat.lt_of_lt_of_le ha (Nat.pow_le_pow_right (by decide) (by decide))) (fun e => absurd e hb) fun _ _ => h _ _ _ (Nat.le_succ_of_le ht) (Nat.ne_of_gt ht) (rep_ofFrac hb p hc q)
theorem divF {x y : UInt64} {t u : Tok} {a b d e : Int} (c f : Int) (hh : A.handled = none) (ht : 1 ≤ s.toks) (hx : Rep x a d) (hy : Rep y b e) (hd : 0 < d) (he : 0 < e) (hb : b ≠ 0) (p : P2 f) (hc : c.natAbs ≤ 2 ^ 53) (q : a * e * f = c * b * d)
    (h : ∀ z t' tk, 1 ≤ tk → t' ≠ 0 → Rep z c f → Q (.float z t') { s with toks := tk }) : wpAny (model prog w) A (binaryOp .Div (.float x t) (.float y u)) Q E s :=
  truediv_float_or hh (fun z => by rw [hy.isZero he] at z; exact absurd (by simpa using z) hb) fun _ => h _ _ _ (Nat.le_succ_of_le ht) (Nat.ne_of_gt ht) (hx.div hy hd he hb p hc q)
theorem modF {x : UInt64} {t u : Tok} {a d : Int} (hh : A.handled = none) (ht : 1 ≤ s.toks) (hx : Rep x a d) (p : P2 d) (hc : d ≤ 2 ^ 52) (h : ∀ z t' tk, 1 ≤ tk → t' ≠ 0 → Rep z (a % d) d → Q (.float z t') { s with toks := tk }) :
    wpAny (model prog w) A (binaryOp .Mod (.float x t) (.float 4607182418800017408 u)) Q E s :=
  PySem.Flt.mod_ff hh (fun z => by rw [rep_one.isZero (by decide)] at z; exact absurd z (by decide)) fun _ => h _ _ _ (Nat.le_succ_of_le ht) (Nat.ne_of_gt ht) (hx.mod1 p hc)
theorem intF {x : UInt64} {t : Tok} {a d : Int} (ht : 1 ≤ s.toks) (hx : Rep x a d) (hd : 0 < d) (ha : 0 ≤ a) (h : ∀ i t' tk, 1 ≤ tk → i = a / d → Q (.int i t') { s with toks := tk }) : wpAny (model prog w) A (call (.type "int") [.float x t]) Q E s := by
  obtain ⟨sg, m, e, h1⟩ := hx.1
  exact call_int_float h1 (h _ _ _ (Nat.le_succ_of_le ht) (Rep.trunc h1 hx hd ha))
theorem newT {vs : List Value} (hn : vs.length < 1000) (h : ∀ T h', s.heap.get? T = none → s.heap.StaysIn h' → IsTup h' T vs.toArray → Q (.ref T) { s with heap := h' }) : wpAny (model prog w) A (newTuple vs) Q E s := by
  refine wpAny_newObj_type ?_ (by show vs.toArray.size ≤ sizeLine; rw [List.size_toArray, sizeLine_eq]; omega)
  exact h _ _ (fresh1 _ (Nat.le_refl _)) (fun b o e => Heap.get?_push_of_some _ e) ⟨_, Heap.get?_push_size _ rfl, rfl, 0, rfl⟩
theorem newL {vs : List Value} (hn : vs.length < 1000) (h : ∀ T h', s.heap.get? T = none → s.heap.StaysIn h' → h'.IsList T vs.toArray → Q (.ref T) { s with heap := h' }) : wpAny (model prog w) A (newList vs) Q E s := by
  refine wpAny_newObj_type ?_ (by show vs.toArray.size ≤ sizeLine; rw [List.size_toArray, sizeLine_eq]; omega)
  exact h _ _ (fresh1 _ (Nat.le_refl _)) (fun b o e => Heap.get?_push_of_some _ e) ⟨_, Heap.get?_push_size _ rfl, rfl, 0, rfl⟩
theorem newLP {vs : List Value} (hn : vs.length < 1000) (h : ∀ T h', s.heap.get? T = none → s.heap.StaysIn h' → h'.PlainList T vs.toArray → Q (.ref T) { s with heap := h' }) : wpAny (model prog w) A (newList vs) Q E s := by
  refine wpAny_newObj_type ?_ (by show vs.toArray.size ≤ sizeLine; rw [List.size_toArray, sizeLine_eq]; omega)
  exact h _ _ (fresh1 _ (Nat.le_refl _)) (fun b o e => Heap.get?_push_of_some _ e) ⟨_, Heap.get?_push_size _ rfl⟩
end
theorem isTup_new {h h' g' : Heap} {D : Addr} {its : Array Value} (n : h.get? D = none) (hl : IsTup h' D its) (k : ∀ b o, h.get? b = none → h'.get? b = some o → g'.get? b = some o) : IsTup g' D its :=
  let ⟨o, ho, r⟩ := hl; ⟨o, k _ _ n ho, r⟩
structure Prm (n share value : Int) : Prop where
  p2 : ∃ k : Nat, 4 ≤ k ∧ k ≤ 18 ∧ n = 2 ^ k
  s1 : 1 ≤ share
  s2 : share ≤ 1024
  v1 : 1 ≤ value
  v2 : value ≤ 1024
variable {n share value : Int}
theorem Prm.n16 (p : Prm n share value) : 16 ≤ n := by
  obtain ⟨k, h1, h2, rfl⟩ := p.p2
  have : (2 : Int) ^ 4 ≤ 2 ^ k := by
    have := Nat.pow_le_pow_right (n := 2) (by decide) h1
    have h3 : ((2 ^ 4 : Nat) : Int) ≤ ((2 ^ k : Nat) : Int) := Int.ofNat_le.mpr this
    simpa using h3
  simpa using this
theorem Prm.n18 (p : Prm n share value) : n ≤ 262144 := by
  obtain ⟨k, h1, h2, rfl⟩ := p.p2
  have : (2 : Int) ^ k ≤ 2 ^ 18 := by
    have := Nat.pow_le_pow_right (n := 2) (by decide) h2
    have h3 : ((2 ^ k : Nat) : Int) ≤ ((2 ^ 18 : Nat) : Int) := Int.ofNat_le.mpr this
    simpa using h3
  simpa using this
theorem Prm.pn (p : Prm n share value) : P2 n := by obtain ⟨k, h1, h2, h3⟩ := p.p2; exact ⟨k, by omega, h3⟩
theorem Prm.even (p : Prm n share value) : ∃ m, n = 16 * m ∧ 1 ≤ m := by
  have h16 := p.n16
  obtain ⟨k, h1, h2, h3⟩ := p.p2
  refine ⟨2 ^ (k - 4), ?_, Int.pow_pos (by decide)⟩
  rw [h3, show (16 : Int) = 2 ^ 4 by decide, ← Int.pow_add]; congr 1; omega
theorem p2_1024 : P2 1024 := ⟨10, by decide, by decide⟩
theorem p2_1 : P2 1 := ⟨0, by decide, by decide⟩
theorem P2.mul {a b : Int} (h1 : P2 a) (h2 : P2 b) (hb : a * b ≤ 2 ^ 100) : P2 (a * b) := by
  obtain ⟨i, h3, rfl⟩ := h1
  obtain ⟨j, h4, rfl⟩ := h2
  refine ⟨i + j, ?_, by rw [Int.pow_add]⟩
  rw [← Int.pow_add] at hb
  rcases Nat.lt_or_ge 100 (i + j) with g | g
  · exfalso
    have h5 : (2 : Nat) ^ 101 ≤ 2 ^ (i + j) := Nat.pow_le_pow_right (by decide) g
    have h6 : ((2 ^ 101 : Nat) : Int) ≤ ((2 ^ (i + j) : Nat) : Int) := Int.ofNat_le.mpr h5
    rw [Int.natCast_pow, Int.natCast_pow] at h6
    have h7 : (2 : Int) ^ 101 ≤ 2 ^ 100 := Int.le_trans h6 hb
    revert h7; decide
  · omega
theorem Prm.pD (p : Prm n share value) : P2 (1048576 * n) := P2.mul ⟨20, by decide, by decide⟩ p.pn (by have := p.n18; omega)
theorem Prm.pn1024 (p : Prm n share value) : P2 (1024 * n) := P2.mul p2_1024 p.pn (by have := p.n18; omega)
theorem mul_bd {a b x y : Int} (h0 : 0 ≤ a) (h1 : a ≤ x) (h2 : 0 ≤ b) (h3 : b ≤ y) : 0 ≤ a * b ∧ a * b ≤ x * y :=
  ⟨Int.mul_nonneg h0 h2, Int.mul_le_mul h1 h3 h2 (Int.le_trans h0 h1)⟩
end
end Mine
namespace Mine
section
/-- a block's state: its own names, the cells it reads, all that stands beside -/
structure Bk (env : Env) (m cm : Str → Option Value) (g h : Heap) : Prop extends Rd env m cm g h where
  loc : g.get? env.locals = none
  cne : ∀ n c, env.cells.lookup n = some c → c ≠ env.locals
theorem Bk.keeps {env : Env} {m cm : Str → Option Value} {g h h' : Heap} (S : Bk env m cm g h) (k : h.StaysIn h') : Bk env m cm g h' := ⟨S.toRd.keeps k, S.loc, S.cne⟩
theorem inKeep {w : World} {env : Env} {m cm : Str → Option Value} {g h : Heap} (G : Gd w g) (R : Rd env m cm g h) : (Mine.hd.heap_39 w.params).In h := G.x.keeps R.keep
theorem stB {M : Model} {A : Around} {E : Value → Shared → Prop} {s : Shared} {env : Env} {m cm : Str → Option Value} {g : Heap} {x : Str} {v : Value} {Q : Unit → Shared → Prop} (S : Bk env m cm g s.heap) (ht : 1 ≤ s.toks) (hx : env.kindOf x = some .local) (hk : env.scope.kind = .function)
    (h : ∀ h' tk, 1 ≤ tk → Bk env (fun y => if y = x then some v else m y) cm g h' → Heap.SameBut env.locals s.heap h' → Q () { s with heap := h', toks := tk }) : wpAny M A (storeName env x v) Q E s := by
  refine wpAny_storeName_local hx S.ns (fun h' hn hs => h h' _ (Nat.le_succ_of_le ht) ⟨⟨hn, fun n c hc => (S.cell n c hc).sameBut hs (S.cne n c hc), fun b o e => ?_⟩, S.loc, S.cne⟩ hs) (by rw [hk]; rfl)
  exact (hs.2 b (fun q => by rw [q, S.loc] at e; cases e)).trans (S.keep b o e)
/-- what one turn of a comprehension leaves: the item, what it made, all else as it was -/
def Elt (s : Shared) (cenv : Env) (cm : Str → Option Value) (g : Heap) (F : Nat → Value → List (Addr × Obj) → Prop) (i : Nat) (y : Value) (s' : Shared) : Prop :=
  ∃ h' tk m' fr, s' = { s with heap := h', toks := tk } ∧ Bk cenv m' cm g h' ∧ F i y fr ∧ ∀ p ∈ fr, g.get? p.1 = none ∧ p.1 ≠ cenv.locals ∧ h'.get? p.1 = some p.2
section
variable {prog : Program} {w : World} {A : Around} {E : Value → Shared → Prop} {s : Shared}
theorem compLoop {elt target iter : Expr} {scope : Scope} {pos : Pos} {it acc : Value} {env : Env} {R : Result → Shared → Prop} (I : Nat → Shared → Prop)
    (turn : ∀ n s, I n s → wpAny (model prog w) A (pyNext it) (fun r s₁ => match r with
      | none => R (.ok .next) s₁
      | some v => wpAny (model prog w) A (letOwnedTupleGo target it v) (fun _ s₁ => wpAny (model prog w) A (assign target env v) (fun _ s₂ =>
          wpAny (model prog w) A (eval elt env) (fun x s₄ =>
              wpAny (model prog w) A (call (.builtin "list.append") [acc, x]) (fun _ s₅ => ∃ m, m < n ∧ I m s₅) (fun _ _ => False) s₄) (fun _ _ => False) s₂) (fun _ _ => False) s₁) (fun _ _ => False) s₁) (fun _ _ => False) s)
    (n : Nat) (h : I n s) :
    codeAny (model prog w) A (.compLoop (.ListComp elt [⟨target, iter, [], 0⟩] scope pos) 0 it acc env) R s := by
  refine codeAny_loop rfl I (fun n s hI => ?_) n h
  show wpAny _ A ((compTurn (.ListComp elt [⟨target, iter, [], 0⟩] scope pos) 0 it acc env).onRaise (fun x => do noteFrame x env; theTreesLotGoes x)) _ _ s
  refine wpAny_noted ?_
  rw [compTurn_list]
  refine wpAny_bind (wpAny_standAt (wpAny_bind (wpAny_mono (turn n s hI) (fun r s₁ h₁ => ?_) fun _ _ h' => h'.elim)))
  cases r with
  | none => exact wpAny_pure h₁
  | some v =>
    refine wpAny_bind (wpAny_mono h₁ (fun _ s₂ h₂ => ?_) fun _ _ h' => h'.elim)
    refine wpAny_bind (wpAny_mono h₂ (fun _ s₂ h₂ => ?_) fun _ _ h' => h'.elim)
    refine wpAny_bind (wpAny_pure ?_)
    exact wpAny_bind (wpAny_bind (wpAny_mono h₂ (fun x s₄ h₄ => wpAny_bind (wpAny_mono h₄ (fun _ s₅ h₅ => wpAny_pure (wpAny_pure ⟨rfl, h₅⟩)) fun _ _ h' => h'.elim)) fun _ _ h' => h'.elim))
theorem getElem?_snoc {α : Type} {l : List α} {a b : α} {i : Nat} (h : (l ++ [a])[i]? = some b) : (i < l.length ∧ l[i]? = some b) ∨ (i = l.length ∧ a = b) := by
  rcases Nat.lt_trichotomy i l.length with g | g | g
  · rw [List.getElem?_append_left g] at h; exact .inl ⟨g, h⟩
  · subst g; simp at h; exact .inr ⟨rfl, h⟩
  · have : (l ++ [a])[i]? = none := List.getElem?_eq_none (by rw [List.length_append, List.length_singleton]; omega)
    rw [this] at h; cases h
theorem compBlock (hh : A.handled = none) (ht : 1 ≤ s.toks) {vs : List Value} (hlen : vs.length < 64) {l : Addr} (hl : s.heap.IsList l vs.toArray) {env : Env} {scope : Scope} {cl : List (Str × Addr)} {elt tg iter : Expr} {pos : Pos} {cm : Str → Option Value} (F : Nat → Value → List (Addr × Obj) → Prop)
    (hkind : scope.kind = .function) (hcell : ∀ y ∈ scope.names, y.2 ≠ .cell) (hcells : ∀ n c, cl.lookup n = some c → s.heap.IsCell c (cm n))
    (hgo : ∀ I v i (s' : Shared) (Q : Unit → Shared → Prop) (E : Value → Shared → Prop), vs[i]? = some v → s'.heap.IsListIter I l (i + 1) → Q () s' → wpAny (model prog w) A (letOwnedTupleGo tg (.ref I) v) Q E s')
    (helt : ∀ C g (s' : Shared) m i v, 1 ≤ s'.toks → vs[i]? = some v → s.heap.StaysIn g → Bk (compEnvC scope cl C env) m cm g s'.heap →
      wpAny (model prog w) A (assign tg (compEnvC scope cl C env) v) (fun _ s₂ => wpAny (model prog w) A (eval elt (compEnvC scope cl C env)) (Elt s' (compEnvC scope cl C env) cm g F i) (fun _ _ => False) s₂) (fun _ _ => False) s')
    {RR : Value → Addr → Result → Shared → Prop}
    (hRR : ∀ D C h' tk m' (ys : List Value) (frs : List (List (Addr × Obj))), 1 ≤ tk → s.heap.get? D = none → s.heap.get? C = none → D ≠ C → h'.Ns C m' → h'.IsList D ys.toArray → s.heap.StaysIn h' → ys.length = vs.length → frs.length = vs.length →
      (∀ i y fr, ys[i]? = some y → frs[i]? = some fr → F i y fr ∧ ∀ p ∈ fr, s.heap.get? p.1 = none ∧ p.1 ≠ C ∧ p.1 ≠ D ∧ h'.get? p.1 = some p.2) → RR (.ref D) C (.ok .next) { s with heap := h', toks := tk }) :
    wpAny (model prog w) A (pyIter (.ref l)) (fun it s₂ => wpAny (model prog w) A (newList []) (fun acc s₃ => wpAny (model prog w) A (newFunctionEnv scope env.globals cl [] env.qual none .none (some env)) (fun cenv s₄ =>
      codeAny (model prog w) A (.compStart (.ListComp elt [⟨tg, iter, [], 0⟩] scope pos) 0 it acc { cenv with scope := relabel scope env }) (RR acc cenv.locals) s₄) E s₃) E s₂) E s := by
  refine PySem.Flt.iter_list_ hl fun s₂ hs₂ st₂ hfp hlI => ?_
  have hI0 : s.heap.get? s.heap.objs.size = none := fresh1 _ (Nat.le_refl _)
  have hsz2 : s₂.heap.objs.size = s.heap.objs.size + 1 := by rw [hs₂]; exact Heap.size_push ..
  have k2 : s.heap.StaysIn s₂.heap := by rw [hs₂]; exact fun b o e => Heap.get?_push_of_some _ e
  refine wpAny_newObj_type (wpAny_newFunctionEnv hcell (by intro y hy; simp at hy) (fun h₁ hns₁ hsb₁ => ?_) hkind)
  dsimp only at hns₁ hsb₁ ⊢
  generalize hH2 : s₂.heap.push { cls := .type "list", dict := none, data := .seq ([] : List Value).toArray } = H2 at hns₁ hsb₁ ⊢
  have hC : H2.objs.size = s.heap.objs.size + 2 := by rw [← hH2, Heap.size_push, hsz2]
  have hD : s₂.heap.objs.size = s.heap.objs.size + 1 := hsz2
  generalize hIa : s.heap.objs.size = I at *
  rw [hD]
  have hDC : I + 1 ≠ I + 2 := by omega
  rw [hC] at hns₁ hsb₁ ⊢
  have below : ∀ b, b < I + 2 → ∀ o, H2.get? b = some o → h₁.get? b = some o := fun b hb o e => hsb₁.extBut b o (by exact Nat.ne_of_lt hb) (Heap.get?_push_of_some _ e)
  have old : s.heap.StaysIn h₁ := fun b o e => below b (by have := Heap.lt_size e; rw [hIa] at this; exact Nat.lt_trans this (by omega)) o (hH2 ▸ Heap.get?_push_of_some _ (k2 b o e))
  have hacc : h₁.PlainList (I + 1) #[] := ⟨_, below _ (by omega) _ (by rw [← hH2, ← hD]; exact Heap.get?_push_size _ rfl)⟩
  have hlt : l < I := by rw [← hIa]; obtain ⟨o, ho, _⟩ := hl; exact Heap.lt_size ho
  have hit₁ : h₁.IsListIter I l 0 := st₂.1.at fun o e => below I (by omega) o (hH2 ▸ Heap.get?_push_of_some _ e)
  have fr1 : s.heap.get? (I + 1) = none := fresh1 _ (by rw [hIa]; exact Nat.le_succ _)
  have fr2 : s.heap.get? (I + 2) = none := fresh1 _ (by rw [hIa]; omega)
  have W := Walks.list (prog := prog) (w := w) (A := A) hh I l (Nat.ne_of_lt hlt) vs.toArray
  have ht2 : 1 ≤ s₂.toks + ([] : List (Str × Value)).length := by rw [hs₂]; exact ht
  have loop : ∀ s₃ : Shared, s₃ = { s with heap := h₁, toks := s₂.toks + ([] : List (Str × Value)).length } →
      codeAny (model prog w) A (.compLoop (.ListComp elt [⟨tg, iter, [], 0⟩] scope pos) 0 (.ref I) (.ref (I + 1)) (compEnvC scope cl (I + 2) env)) (RR (.ref (I + 1)) (I + 2)) s₃ := by
    rintro s₃ rfl
    refine compLoop (fun k s' => ∃ h tk m, ∃ ys : List Value, ∃ frs : List (List (Addr × Obj)), s' = { s with heap := h, toks := tk } ∧ 1 ≤ tk ∧ ys.length ≤ vs.length ∧ frs.length = ys.length ∧ h.IsListIter I l ys.length ∧ h.PlainList (I + 1) ys.toArray ∧ h.Ns (I + 2) m ∧ s.heap.StaysIn h ∧
      (∀ i y fr, ys[i]? = some y → frs[i]? = some fr → F i y fr ∧ ∀ p ∈ fr, s.heap.get? p.1 = none ∧ p.1 ≠ I + 2 ∧ p.1 ≠ I + 1 ∧ p.1 ≠ I ∧ h.get? p.1 = some p.2) ∧ k = vs.length + 1 - ys.length) ?_ (vs.length + 1)
      ⟨h₁, _, _, [], [], rfl, ht2, Nat.zero_le _, rfl, hit₁, hacc, hns₁, old, by simp, rfl⟩
    rintro k s' ⟨h, tk, m, ys, frs, rfl, htk, hle, hfl, hit, hac, hns, hold, hF, rfl⟩
    have hlh : h.IsList l vs.toArray := stays_list hold hl
    by_cases hlt' : ys.length < vs.length
    · refine wpAny_with_toks (n := 1) htk (W.item ys.length _ _ _ (by simpa using hlt') ⟨hit, hlh⟩ fun v h1 tk1 hv st1 hk1 htk1 => ?_)
      have hv' : vs[ys.length]? = some v := by simpa using hv
      have k1 : ∀ b o, b ≠ I → h.get? b = some o → h1.get? b = some o := fun b o hb e => hk1 b o (by simpa using hb) e
      have hold1 : s.heap.StaysIn h1 := fun b o e => k1 b o (by have := Heap.lt_size e; rw [hIa] at this; exact Nat.ne_of_lt this) (hold b o e)
      refine hgo I v ys.length _ _ _ hv' st1.1 ?_
      have hns1 : h1.Ns (I + 2) m := hns.at' fun o e => k1 _ o (by exact Nat.ne_of_gt (by omega)) e
      have hid : ∀ b o, b ≠ I + 2 → h1.get? b = some o → (h1.hide (I + 2)).get? b = some o := fun b o hb e => (Heap.hide_ne h1 hb).trans e
      have hsg : s.heap.StaysIn (h1.hide (I + 2)) := fun b o e => hid b o (by rintro rfl; rw [fr2] at e; cases e) (hold1 b o e)
      refine wpAny_mono (wpAny_toks_of (n := 1) htk1 (helt (I + 2) (h1.hide (I + 2)) _ m ys.length v htk1 hv' hsg ⟨⟨hns1, fun nm c hc => let ⟨o, ho, hd⟩ := hcells nm c hc; ⟨o, hold1 _ _ ho, hd⟩, fun b o e => Heap.of_hide e⟩, Heap.hide_self _ _, fun nm c hc => ?_⟩)) (fun _ s4 h4 => wpAny_mono (wpAny_toks_of (n := 1) h4.1 h4.2) (fun y s5 h5 => ?_) fun _ _ e => e.2) fun _ _ e => e.2
      · rintro rfl
        obtain ⟨o, ho, _⟩ := hcells nm _ hc
        have hf : s.heap.get? (I + 2) = some o := ho
        rw [fr2] at hf; cases hf
      obtain ⟨htk2, h2, tk2, m2, fr, rfl, B2, hFy, hfr⟩ := h5
      have kg : ∀ b o, b ≠ I + 2 → h1.get? b = some o → h2.get? b = some o := fun b o hb e => B2.keep b o (hid b o hb e)
      have hac1 : h1.PlainList (I + 1) ys.toArray := hac.at fun o e => k1 _ o (by exact Nat.ne_of_gt (Nat.lt_succ_self _)) e
      have hac2 : h2.PlainList (I + 1) ys.toArray := hac1.at fun o e => kg _ o hDC e
      refine wpAny_list_append_plain (hsz := by rw [List.size_toArray, sizeLine_eq]; omega) hac2 fun h3 hac3 hs3 => ?_
      have hgD : ∃ o, (h1.hide (I + 2)).get? (I + 1) = some o := by obtain ⟨c, ho⟩ := hac1; exact ⟨_, hid _ _ hDC ho⟩
      have hgI : ∃ o, (h1.hide (I + 2)).get? I = some o := by obtain ⟨o, ho, _⟩ := st1.1; exact ⟨o, hid _ _ (by omega) ho⟩
      refine ⟨vs.length + 1 - (ys.length + 1), by omega, h3, tk2, m2, ys ++ [y], frs ++ [fr], rfl, htk2, by rw [List.length_append, List.length_singleton]; omega, by simp [hfl], ?_, ?_, B2.ns.sameBut hs3 (by exact Ne.symm hDC), fun b o e => ?_, ?_, by simp⟩
      · rw [List.length_append, List.length_singleton]
        refine st1.1.at fun o e => ?_
        exact (hs3.2 _ (by exact Nat.ne_of_lt (Nat.lt_succ_self _))).trans (kg _ o (by omega) e)
      · have e : (ys ++ [y]).toArray = ys.toArray.push y := by simp
        rw [e]; exact hac3
      · refine (hs3.2 b ?_).trans (kg b o ?_ (hold1 b o e))
        · rintro rfl; rw [fr1] at e; cases e
        · rintro rfl; rw [fr2] at e; cases e
      · intro i y' fr' hy' hfr'
        rcases getElem?_snoc hy' with ⟨g1, g2⟩ | ⟨g1, g2⟩
        · rw [List.getElem?_append_left (by omega)] at hfr'
          obtain ⟨q1, q2⟩ := hF i y' fr' g2 hfr'
          refine ⟨q1, fun p hp => ?_⟩
          obtain ⟨r1, r2, r3, r4, r5⟩ := q2 p hp
          exact ⟨r1, r2, r3, r4, (hs3.2 _ r3).trans (kg _ _ r2 (k1 _ _ r4 r5))⟩
        · subst g1 g2
          rw [← hfl] at hfr'
          simp at hfr'
          subst hfr'
          refine ⟨hFy, fun p hp => ?_⟩
          obtain ⟨r1, r2, r3⟩ := hfr p hp
          have nD : p.1 ≠ I + 1 := by rintro q; obtain ⟨o, ho⟩ := hgD; rw [q, ho] at r1; cases r1
          have nI : p.1 ≠ I := by rintro q; obtain ⟨o, ho⟩ := hgI; rw [q, ho] at r1; cases r1
          exact ⟨none_less hsg r1, r2, nD, nI, (hs3.2 _ nD).trans r3⟩
    · have hin : ys.length = vs.length := by omega
      refine wpAny_with_toks (n := 1) htk (W.done _ _ _ ⟨by simpa [hin] using hit, hlh⟩ fun h1 tk1 hk1 htk1 => ?_)
      have k1 : ∀ b o, b ≠ I → h.get? b = some o → h1.get? b = some o := fun b o hb e => hk1 b o (by simpa using hb) e
      refine hRR (I + 1) (I + 2) h1 tk1 m ys frs htk1 fr1 fr2 hDC (hns.at' fun o e => k1 _ o (by exact Nat.ne_of_gt (by omega)) e) (hac.at fun o e => k1 _ o (by exact Nat.ne_of_gt (Nat.lt_succ_self _)) e).isList (fun b o e => k1 b o (by have := Heap.lt_size e; rw [hIa] at this; exact Nat.ne_of_lt this) (hold b o e)) hin (by omega) fun i y fr hy hfr => ?_
      obtain ⟨q1, q2⟩ := hF i y fr hy hfr
      exact ⟨q1, fun p hp => let ⟨r1, r2, r3, r4, r5⟩ := q2 p hp; ⟨r1, r2, r3, k1 _ _ r4 r5⟩⟩
  subst hs₂
  exact codeAny_compStart_list (loop _ rfl) (W.self 0 _ _ _ ⟨hit₁, stays_list old hl⟩ (loop _ rfl))
end
end
end Mine
namespace Mine
section
section
variable {prog : Program} {w : World} {A : Around} {E : Value → Shared → Prop} {s : Shared} {env : Env} {m cm : Str → Option Value} {g : Heap}
theorem stL' {M : Model} {x : Str} {v : Value} {Q : Unit → Shared → Prop} (S : St env m cm g s.heap) (ht : 1 ≤ s.toks) (hx : env.kindOf x = some .local) (hk : env.scope.kind = .function)
    (h : ∀ h' tk, 1 ≤ tk → St env (fun y => if y = x then some v else m y) cm g h' → Heap.SameBut env.locals s.heap h' → Q () { s with heap := h', toks := tk }) : wpAny M A (storeName env x v) Q E s := by
  refine wpAny_storeName_local hx S.ns (fun h' hn hs => h h' _ (Nat.le_succ_of_le ht) ⟨⟨hn, fun n c hc => (S.cell n c hc).sameBut hs (S.cls n c hc).2, fun b o e => ?_⟩, S.loc, S.cls, S.apart⟩ hs) (by rw [hk]; rfl)
  exact (hs.2 b (fun q => by rw [q, S.loc] at e; cases e)).trans (S.keep b o e)
theorem St.sameBut {h h' : Heap} {C : Addr} (S : St env m cm g h) (hs : Heap.SameBut C h h') (hC : C ≠ env.locals) (hcC : ∀ n c, env.cells.lookup n = some c → C ≠ c) (hg : g.get? C = none) : St env m cm g h' :=
  ⟨⟨S.ns.sameBut hs (Ne.symm hC), fun n c hc => (S.cell n c hc).sameBut hs (Ne.symm (hcC n c hc)), fun b o e => (hs.2 b (fun q => by rw [q, hg] at e; cases e)).trans (S.keep b o e)⟩, S.loc, S.cls, S.apart⟩
/-- the items of a comprehension and what they made -/
def Items (g : Heap) (F : Nat → Value → List (Addr × Obj) → Prop) (k : Nat) (ys : List Value) : Prop :=
  ys.length = k ∧ ∃ frs : List (List (Addr × Obj)), frs.length = k ∧ ∀ i y fr, ys[i]? = some y → frs[i]? = some fr → F i y fr ∧ ∀ p ∈ fr, g.get? p.1 = some p.2
theorem evComp (hh : A.handled = none) {scope : Scope} {cl : List (Str × Addr)} {elt tg iter : Expr} {pos : Pos} {Q : Value → Shared → Prop} (F : Nat → Value → List (Addr × Obj) → Prop)
    (hclos : closureFor scope env = pure cl) (hkind : scope.kind = .function) (hcell : ∀ y ∈ scope.names, y.2 ≠ .cell) (hnames : ∀ x ∈ scope.names, x.2 = .local → scope.names.lookup x.1 = some .local)
    (hs : ∀ x, foldedSetIterable iter env x = pure x) (hcl : ∀ n c, cl.lookup n = some c → env.cells.lookup n = some c)
    (h : wpAny (model prog w) A (eval iter env) (fun x s₁ => ∃ l vs, x = .ref l ∧ s₁.heap.IsList l (List.toArray vs) ∧ vs.length < 64 ∧ 1 ≤ s₁.toks ∧ St env m cm g s₁.heap ∧
      (∀ I v i (s' : Shared) (Q : Unit → Shared → Prop) (E : Value → Shared → Prop), vs[i]? = some v → s'.heap.IsListIter I l (i + 1) → Q () s' → wpAny (model prog w) A (letOwnedTupleGo tg (.ref I) v) Q E s') ∧
      (∀ C g' (s' : Shared) m i v, 1 ≤ s'.toks → vs[i]? = some v → s₁.heap.StaysIn g' → g.StaysIn g' → Bk (compEnvC scope cl C env) m cm g' s'.heap →
        wpAny (model prog w) A (assign tg (compEnvC scope cl C env) v) (fun _ s₂ => wpAny (model prog w) A (eval elt (compEnvC scope cl C env)) (Elt s' (compEnvC scope cl C env) cm g' F i) (fun _ _ => False) s₂) (fun _ _ => False) s') ∧
      (∀ g' D h' tk ys, 1 ≤ tk → St env m cm g' h' → g.StaysIn g' → s₁.heap.get? D = none → g'.IsList D (List.toArray ys) → Items g' F vs.length ys → Q (.ref D) { s₁ with heap := h', toks := tk })) E s) :
    wpAny (model prog w) A (eval (.ListComp elt [⟨tg, iter, [], 0⟩] scope pos) env) Q E s := by
  rw [eval_ListComp]
  refine wpAny_comprehension_free (use := none) rfl hs hclos hkind hnames (wpAny_mono h (fun xv s₁ h₁ => ?_) fun _ _ e => e)
  obtain ⟨l, vs, rfl, hl, hlen, ht, S, hgo, helt, hQ⟩ := h₁
  refine compBlock hh ht hlen hl F hkind hcell (fun n c hc => S.cell n c (hcl n c hc)) hgo (fun C g' s' m i v ht' hv k B => helt C g' s' m i v ht' hv k (fun b o e => k b o (S.keep b o e)) B) ?_
  intro D C h' tk m' ys frs htk hD hC hDC hns hlD k ly lf hF
  refine ⟨m', hns, fun h'' hs'' => ?_⟩
  have nC := notHere S.toRd hC
  have nD := notHere S.toRd hD
  have k'' : s₁.heap.StaysIn h'' := fun b o e => (hs''.2 b (fun q => by rw [q, hC] at e; cases e)).trans (k b o e)
  obtain ⟨g', S', kg, nw⟩ := S.grow k''
  refine hQ g' D h'' tk ys htk S' kg hD (isList_new hD (hlD.extBut hs''.extBut hDC) nw) ⟨ly, frs, lf, fun i y fr hy hfr => ?_⟩
  obtain ⟨q1, q2⟩ := hF i y fr hy hfr
  exact ⟨q1, fun p hp => let ⟨r1, r2, r3, r4⟩ := q2 p hp; nw _ _ r1 ((hs''.2 _ r2).trans r4)⟩
theorem asgComp (hh : A.handled = none) {scope : Scope} {cl : List (Str × Addr)} {elt tg iter : Expr} {pos py spos : Pos} {y : Str} {Q : Flow → Shared → Prop} (F : Nat → Value → List (Addr × Obj) → Prop)
    (hsw : swapsWith (.ListComp elt [⟨tg, iter, [], 0⟩] scope pos) (some (.Name y py)) spos.line env = pure true)
    (hclos : closureFor scope env = pure cl) (hkind : scope.kind = .function) (hcell : ∀ y ∈ scope.names, y.2 ≠ .cell) (hnames : ∀ x ∈ scope.names, x.2 = .local → scope.names.lookup x.1 = some .local)
    (hs : ∀ x, foldedSetIterable iter env x = pure x) (hcl : ∀ n c, cl.lookup n = some c → env.cells.lookup n = some c) (hy : env.kindOf y = some .local) (hek : env.scope.kind = .function)
    (h : wpAny (model prog w) A (eval iter env) (fun x s₁ => ∃ l vs, x = .ref l ∧ s₁.heap.IsList l (List.toArray vs) ∧ vs.length < 64 ∧ 1 ≤ s₁.toks ∧ St env m cm g s₁.heap ∧
      (∀ I v i (s' : Shared) (Q : Unit → Shared → Prop) (E : Value → Shared → Prop), vs[i]? = some v → s'.heap.IsListIter I l (i + 1) → Q () s' → wpAny (model prog w) A (letOwnedTupleGo tg (.ref I) v) Q E s') ∧
      (∀ C g' (s' : Shared) m i v, 1 ≤ s'.toks → vs[i]? = some v → s₁.heap.StaysIn g' → g.StaysIn g' → Bk (compEnvC scope cl C env) m cm g' s'.heap →
        wpAny (model prog w) A (assign tg (compEnvC scope cl C env) v) (fun _ s₂ => wpAny (model prog w) A (eval elt (compEnvC scope cl C env)) (Elt s' (compEnvC scope cl C env) cm g' F i) (fun _ _ => False) s₂) (fun _ _ => False) s') ∧
      (∀ g' D h' tk ys, 1 ≤ tk → St env (fun z => if z = y then some (.ref D) else m z) cm g' h' → g.StaysIn g' → g'.IsList D (List.toArray ys) → Items g' F vs.length ys → s₁.heap.get? D = none → (∀ b o, b ≠ env.locals → s₁.heap.get? b = some o → h'.get? b = some o) → Q .next { s₁ with heap := h', toks := tk })) E s) :
    wpAny (model prog w) A (exec (.Assign [.Name y py] (.ListComp elt [⟨tg, iter, [], 0⟩] scope pos) spos) env) Q E s := by
  rw [exec_Assign_Name_used _ _ _ _ hsw]
  refine wpAny_bind (wpAny_standAt (wpAny_bind ?_))
  show wpAny _ A (do let _ ← comprehension (.ListComp elt [⟨tg, iter, [], 0⟩] scope pos) scope env _ (newList []) false (eval iter env) (some (assign (.Name y py) env))) _ _ s
  refine wpAny_bind (wpAny_mono (wpAny_comprehension_free (use := some (assign (.Name y py) env)) (Q := fun _ s' => Q .next s') rfl hs hclos hkind hnames
    (wpAny_mono h (fun xv s₁ h₁ => ?_) fun _ _ e => e)) (fun _ s' hq => wpAny_pure (wpAny_pure hq)) fun _ _ e => e)
  obtain ⟨l, vs, rfl, hl, hlen, ht, S, hgo, helt, hQ⟩ := h₁
  refine compBlock hh ht hlen hl F hkind hcell (fun n c hc => S.cell n c (hcl n c hc)) hgo (fun C g' s' m i v ht' hv k B => helt C g' s' m i v ht' hv k (fun b o e => k b o (S.keep b o e)) B) ?_
  intro D C h' tk m' ys frs htk hD hC hDC hns hlD k ly lf hF
  have nC := notHere S.toRd hC
  have nD := notHere S.toRd hD
  show wpAny _ A (assign (.Name y py) env (.ref D)) _ _ _
  refine wpAny_assign_Name (stL' (S.keeps k) htk hy hek fun h₂ tk₂ htk₂ S₂ hs₂ => ?_)
  refine ⟨m', hns.sameBut hs₂ nC.1, fun h₃ hs₃ => ?_⟩
  have gC : g.get? C = none := none_less S.keep hC
  have S₃ := S₂.sameBut hs₃ nC.1 nC.2 gC
  obtain ⟨g', S', kg, nw⟩ := S₃.more
  have nw' : ∀ b o, s₁.heap.get? b = none → h₃.get? b = some o → g'.get? b = some o := fun b o hb e => nw b o e (notHere S.toRd hb).1 (notHere S.toRd hb).2
  refine hQ g' D h₃ tk₂ ys htk₂ S' kg (isList_new hD ((hlD.extBut hs₂.extBut nD.1).extBut hs₃.extBut hDC) nw') ⟨ly, frs, lf, fun i y fr hy hfr => ?_⟩ hD (fun b o hb e => (hs₃.2 b (fun q => by rw [q, hC] at e; cases e)).trans ((hs₂.2 b hb).trans (k b o e)))
  obtain ⟨q1, q2⟩ := hF i y fr hy hfr
  exact ⟨q1, fun p hp => let ⟨r1, r2, r3, r4⟩ := q2 p hp; nw' _ _ r1 ((hs₃.2 _ r2).trans ((hs₂.2 _ (notHere S.toRd r1).1).trans r4))⟩
theorem asgCompN (S : St env m cm g s.heap) (hh : A.handled = none) (ht : 1 ≤ s.toks) {l : Addr} {vs : List Value} (hl : g.IsList l (List.toArray vs)) (hlen : vs.length < 64) (F : Nat → Value → List (Addr × Obj) → Prop) {scope : Scope} (cl : List (Str × Addr)) {elt tg iter : Expr} {pos py spos : Pos} {y : Str} {Q : Flow → Shared → Prop}
    (hsw : swapsWith (.ListComp elt [⟨tg, iter, [], 0⟩] scope pos) (some (.Name y py)) spos.line env = pure true)
    (hclos : closureFor scope env = pure cl) (hkind : scope.kind = .function) (hcell : ∀ y ∈ scope.names, y.2 ≠ .cell) (hnames : ∀ x ∈ scope.names, x.2 = .local → scope.names.lookup x.1 = some .local)
    (hs : ∀ x, foldedSetIterable iter env x = pure x) (hcl : ∀ p ∈ cl, env.cells.lookup p.1 = some p.2) (hy : env.kindOf y = some .local) (hek : env.scope.kind = .function)
    (hgo : ∀ I v i (s' : Shared) (Q : Unit → Shared → Prop) (E : Value → Shared → Prop), vs[i]? = some v → s'.heap.IsListIter I l (i + 1) → Q () s' → wpAny (model prog w) A (letOwnedTupleGo tg (.ref I) v) Q E s')
    (hit : ∀ Q' : Value → Shared → Prop, Q' (.ref l) s → wpAny (model prog w) A (eval iter env) Q' E s)
    (helt : ∀ C g' (s' : Shared) m i v, 1 ≤ s'.toks → vs[i]? = some v → g.StaysIn g' → Bk (compEnvC scope cl C env) m cm g' s'.heap →
        wpAny (model prog w) A (assign tg (compEnvC scope cl C env) v) (fun _ s₂ => wpAny (model prog w) A (eval elt (compEnvC scope cl C env)) (Elt s' (compEnvC scope cl C env) cm g' F i) (fun _ _ => False) s₂) (fun _ _ => False) s')
    (fin : ∀ g' D h' tk ys, 1 ≤ tk → St env (fun z => if z = y then some (.ref D) else m z) cm g' h' → g.StaysIn g' → g'.IsList D (List.toArray ys) → Items g' F vs.length ys → s.heap.get? D = none → (∀ b o, b ≠ env.locals → s.heap.get? b = some o → h'.get? b = some o) → Q .next { s with heap := h', toks := tk }) :
    wpAny (model prog w) A (exec (.Assign [.Name y py] (.ListComp elt [⟨tg, iter, [], 0⟩] scope pos) spos) env) Q E s :=
  asgComp hh F hsw hclos hkind hcell hnames hs (fun n c hc => hcl (n, c) (mem_of_lookup hc)) hy hek (hit _ ⟨l, vs, rfl, stays_list S.keep hl, hlen, ht, S, hgo, fun C g' s' m i v ht' hv _ k B => helt C g' s' m i v ht' hv k B, fin⟩)
theorem evCompN (S : St env m cm g s.heap) (hh : A.handled = none) (ht : 1 ≤ s.toks) {l : Addr} {vs : List Value} (hl : g.IsList l (List.toArray vs)) (hlen : vs.length < 64) (F : Nat → Value → List (Addr × Obj) → Prop) {scope : Scope} (cl : List (Str × Addr)) {elt tg iter : Expr} {pos : Pos} {Q : Value → Shared → Prop}
    (hclos : closureFor scope env = pure cl) (hkind : scope.kind = .function) (hcell : ∀ y ∈ scope.names, y.2 ≠ .cell) (hnames : ∀ x ∈ scope.names, x.2 = .local → scope.names.lookup x.1 = some .local)
    (hs : ∀ x, foldedSetIterable iter env x = pure x) (hcl : ∀ p ∈ cl, env.cells.lookup p.1 = some p.2)
    (hgo : ∀ I v i (s' : Shared) (Q : Unit → Shared → Prop) (E : Value → Shared → Prop), vs[i]? = some v → s'.heap.IsListIter I l (i + 1) → Q () s' → wpAny (model prog w) A (letOwnedTupleGo tg (.ref I) v) Q E s')
    (hit : ∀ Q' : Value → Shared → Prop, Q' (.ref l) s → wpAny (model prog w) A (eval iter env) Q' E s)
    (helt : ∀ C g' (s' : Shared) m i v, 1 ≤ s'.toks → vs[i]? = some v → g.StaysIn g' → Bk (compEnvC scope cl C env) m cm g' s'.heap →
        wpAny (model prog w) A (assign tg (compEnvC scope cl C env) v) (fun _ s₂ => wpAny (model prog w) A (eval elt (compEnvC scope cl C env)) (Elt s' (compEnvC scope cl C env) cm g' F i) (fun _ _ => False) s₂) (fun _ _ => False) s')
    (fin : ∀ g' D h' tk ys, 1 ≤ tk → St env m cm g' h' → g.StaysIn g' → g'.IsList D (List.toArray ys) → Items g' F vs.length ys → Q (.ref D) { s with heap := h', toks := tk }) :
    wpAny (model prog w) A (eval (.ListComp elt [⟨tg, iter, [], 0⟩] scope pos) env) Q E s :=
  evComp hh F hclos hkind hcell hnames hs (fun n c hc => hcl (n, c) (mem_of_lookup hc)) (hit _ ⟨l, vs, rfl, stays_list S.keep hl, hlen, ht, S, hgo, fun C g' s' m i v ht' hv _ k B => helt C g' s' m i v ht' hv k B, fun g' D h' tk ys ht' S' k _ h1 h2 => fin g' D h' tk ys ht' S' k h1 h2⟩)
end
end
end Mine
namespace Mine
section
section
variable {prog : Program} {w : World} {A : Around} {E : Value → Shared → Prop} {s : Shared} {env : Env} {m cm : Str → Option Value} {g : Heap}
theorem St.keptBut {h h' : Heap} {C : Addr} (S : St env m cm g h) (hs : ∀ b o, b ≠ C → h.get? b = some o → h'.get? b = some o) (hC : C ≠ env.locals) (hcC : ∀ n c, env.cells.lookup n = some c → C ≠ c) (hg : g.get? C = none) : St env m cm g h' :=
  ⟨⟨S.ns.at' fun o e => hs _ o (Ne.symm hC) e, fun n c hc => let ⟨o, ho, hd⟩ := S.cell n c hc; ⟨o, hs _ _ (Ne.symm (hcC n c hc)) ho, hd⟩, fun b o e => hs b o (fun q => by rw [q, hg] at e; cases e) (S.keep b o e)⟩, S.loc, S.cls, S.apart⟩
theorem St.more' {h : Heap} (S : St env m cm g h) (ex : List Addr) (hex : ∀ a ∈ ex, g.get? a = none) :
    ∃ g', St env m cm g' h ∧ g.StaysIn g' ∧ (∀ a ∈ ex, g'.get? a = none) ∧ ∀ b o, h.get? b = some o → b ≠ env.locals → (∀ n c, env.cells.lookup n = some c → b ≠ c) → b ∉ ex → g'.get? b = some o := by
  obtain ⟨g₁, S₁, k₁, n₁⟩ := S.more
  have k : g.StaysIn (hideAll g₁ ex) := fun b o e => hideAll_get _ (k₁ b o e) fun hb => by rw [hex b hb] at e; cases e
  refine ⟨hideAll g₁ ex, ⟨⟨S₁.ns, S₁.cell, fun b o e => S₁.keep b o (of_hideAll _ e)⟩, ?_, fun n c hc => ⟨?_, (S₁.cls n c hc).2⟩, S₁.apart⟩, k, fun a ha => hideAll_none _ ha, fun b o e h1 h2 h3 => hideAll_get _ (n₁ b o e h1 h2) h3⟩
  · cases q : (hideAll g₁ ex).get? env.locals with
    | none => rfl
    | some o => have := of_hideAll _ q; rw [S₁.loc] at this; cases this
  · cases q : (hideAll g₁ ex).get? c with
    | none => rfl
    | some o => have := of_hideAll _ q; rw [(S₁.cls n c hc).1] at this; cases this
/-- how a turn ends -/
def Turn (s : Shared) (env : Env) (g : Heap) (J : (Str → Option Value) → (Str → Option Value) → Heap → Prop) (f : Flow) (s' : Shared) : Prop :=
  f = .next ∧ ∃ m' cm' h' tk, s' = { s with heap := h', toks := tk } ∧ St env m' cm' g h' ∧ J m' cm' h'
theorem Turn.of {s : Shared} {env : Env} {g : Heap} {J : (Str → Option Value) → (Str → Option Value) → Heap → Prop} {m' cm' : Str → Option Value} {h' : Heap} {tk : Nat} (S : St env m' cm' g h') (j : J m' cm' h') : Turn s env g J .next { s with heap := h', toks := tk } := ⟨rfl, m', cm', h', tk, rfl, S, j⟩
theorem forRule {I : Addr} {fp : List Addr} {n : Nat} {P : Nat → Value → Prop} {St' : Nat → Heap → Prop} (W : Walks prog w A I fp [I] n P St') {tg : Expr} {body : List Stmt} {m0 cm0 : Str → Option Value} (ex : List Addr) {Q : Flow → Shared → Prop}
    (J : Nat → (Str → Option Value) → (Str → Option Value) → Heap → Prop)
    (hJ : ∀ i m cm h h', (∀ b o, b ≠ I → h.get? b = some o → h'.get? b = some o) → J i m cm h → J i m cm h')
    (hg : g.get? I = none) (hloc : ∀ b ∈ fp, b ≠ env.locals ∧ (∀ nm c, env.cells.lookup nm = some c → b ≠ c) ∧ b ∉ ex) (hex : ∀ a ∈ ex, g.get? a = none)
    (ht : 1 ≤ s.toks) (S0 : St env m0 cm0 g s.heap) (st0 : St' 0 s.heap) (J0 : J 0 m0 cm0 s.heap)
    (turn : ∀ i v m cm g' (s' : Shared), 1 ≤ s'.toks → i < n → P i v → g.StaysIn g' → (∀ a ∈ ex, g'.get? a = none) → St env m cm g' s'.heap → J i m cm s'.heap → St' (i + 1) s'.heap →
      wpAny (model prog w) A (letOwnedTupleGo tg (.ref I) v) (fun _ s₁ => wpAny (model prog w) A (assign tg env v) (fun _ s₂ => wpAny (model prog w) A (execs body env) (Turn s' env g' (J (i + 1))) (fun _ _ => False) s₂) (fun _ _ => False) s₁) (fun _ _ => False) s')
    (fin : ∀ m cm h tk, 1 ≤ tk → St env m cm g h → J n m cm h → Q .next { s with heap := h, toks := tk }) :
    codeAny (model prog w) A (.forLoop tg (.ref I) body [] env) (fun r s' => match r with | .ok f => Q f s' | .error e => cameBackBy (model prog w) A env E e s') s := by
  have hIf : I ∈ fp := W.sub I (by simp)
  obtain ⟨l1, l2, l3⟩ := hloc I hIf
  refine codeAny_forLoop_any (fun k s' => ∃ i m cm h tk, s' = { s with heap := h, toks := tk } ∧ 1 ≤ tk ∧ i ≤ n ∧ k = n + 1 - i ∧ St env m cm g h ∧ St' i h ∧ J i m cm h) ?_ (n + 1) ⟨0, m0, cm0, s.heap, s.toks, rfl, ht, Nat.zero_le _, rfl, S0, st0, J0⟩
  rintro k s' ⟨i, m, cm, h, tk, rfl, htk, hi, rfl, S, st, j⟩
  by_cases hlt : i < n
  · refine wpAny_with_toks (n := 1) htk (W.item i _ _ _ hlt st fun v h1 tk1 hP st1 hk1 htk1 => ?_)
    have k1 : ∀ b o, b ≠ I → h.get? b = some o → h1.get? b = some o := fun b o hb e => hk1 b o (by simpa using hb) e
    have S1 := S.keptBut k1 l1 l2 hg
    obtain ⟨g', S', kg, hex', nw⟩ := S1.more' ex hex
    refine wpAny_mono (wpAny_toks_of (n := 1) htk1 (turn i v m cm g' _ htk1 hlt hP kg hex' S' (hJ i m cm h h1 k1 j) st1)) (fun _ s1 q1 => ?_) fun _ _ e => e.2.elim
    refine wpAny_mono (wpAny_toks_of (n := 1) q1.1 q1.2) (fun _ s2 q2 => ?_) fun _ _ e => e.2.elim
    refine wpAny_mono (wpAny_toks_of (n := 1) q2.1 q2.2) (fun f s3 q3 => ?_) fun _ _ e => e.2.elim
    obtain ⟨htk3, rfl, m', cm', h', tk', rfl, S'', j''⟩ := q3
    refine ⟨n + 1 - (i + 1), by omega, i + 1, m', cm', h', tk', rfl, htk3, hlt, rfl, S''.less kg, W.frame _ _ _ st1 fun b hb o e => ?_, j''⟩
    obtain ⟨b1, b2, b3⟩ := hloc b hb
    exact S''.keep b o (nw b o e b1 b2 b3)
  · have hin : i = n := by omega
    subst hin
    refine wpAny_with_toks (n := 1) htk (W.done _ _ _ st fun h1 tk1 hk1 htk1 => ?_)
    have k1 : ∀ b o, b ≠ I → h.get? b = some o → h1.get? b = some o := fun b o hb e => hk1 b o (by simpa using hb) e
    exact wpAny_execs_nil (fin m cm h1 tk1 htk1 (S.keptBut k1 l1 l2 hg) (hJ i m cm h h1 k1 j))
/-- for x in range(k) -/
theorem forRange (hh : A.handled = none) (ht : 1 ≤ s.toks) {k : Nat} (hk : k < 1000) {tg iter : Expr} {body : List Stmt} {pos : Pos} {m0 cm0 : Str → Option Value} (ex : List Addr) {Q : Flow → Shared → Prop}
    (J : Nat → (Str → Option Value) → (Str → Option Value) → Heap → Prop)
    (hJ : ∀ I i m cm h h', s.heap.get? I = none → (∀ b o, b ≠ I → h.get? b = some o → h'.get? b = some o) → J i m cm h → J i m cm h')
    (hex : ∀ a ∈ ex, g.get? a = none ∧ (s.heap.get? a).isSome = true) (S0 : St env m0 cm0 g s.heap) (J0 : ∀ h, s.heap.StaysIn h → J 0 m0 cm0 h)
    (hit : ∀ Q' : Value → Shared → Prop, (∀ (r : Addr) h tk t1 t2 t3, 1 ≤ tk → s.heap.StaysIn h → s.heap.get? r = none → IsRange h r 0 k 1 t1 t2 t3 → Q' (.ref r) { s with heap := h, toks := tk }) → wpAny (model prog w) A (eval iter env) Q' E s)
    (hs : ∀ x, foldedSetIterable iter env x = pure x) (hgo : ∀ it v, letOwnedTupleGo tg it v = pure ())
    (turn : ∀ i t m cm g' (s' : Shared), 1 ≤ s'.toks → i < k → g.StaysIn g' → (∀ a ∈ ex, g'.get? a = none) → St env m cm g' s'.heap → J i m cm s'.heap →
      wpAny (model prog w) A (assign tg env (.int i t)) (fun _ s₂ => wpAny (model prog w) A (execs body env) (Turn s' env g' (J (i + 1))) (fun _ _ => False) s₂) (fun _ _ => False) s')
    (fin : ∀ m cm h tk, 1 ≤ tk → St env m cm g h → J k m cm h → Q .next { s with heap := h, toks := tk }) :
    wpAny (model prog w) A (exec (.For tg iter body [] pos) env) Q E s := by
  refine wpAny_For (hit _ fun r h tk t1 t2 t3 htk k1 nr hr => ?_) hs
  have nI : h.get? h.objs.size = none := fresh1 _ (Nat.le_refl _)
  have nI0 : s.heap.get? h.objs.size = none := none_less k1 nI
  refine wpAny_pyIter_range (s := { s with heap := h, toks := tk }) hr (small_one (by decide) (by decide) (by omega) (by omega)) ?_
  have k2 : h.StaysIn (h.push { cls := .type "range_iterator", data := .fields #[rawInt 0, rawInt (Builtin.Range.rangeSize 0 k 1), rawInt 1] }) := fun b o e => Heap.get?_push_of_some _ e
  have W := Walks.range (prog := prog) (w := w) (A := A) hh h.objs.size 0 1 k
  refine forRule (s := { s with heap := h.push _, toks := tk }) W ex J (fun i m cm h1 h2 kk j => hJ _ i m cm h1 h2 nI0 kk j) (none_less S0.keep nI0) (fun b hb => ?_) (fun a ha => (hex a ha).1) htk ((S0.keeps k1).keeps k2) ?_ (J0 _ (stays_trans k1 k2)) (fun i v m cm g' s' ht' hi hP kg hx' S' j st => ?_) (fun m cm h tk ht' S j => fin m cm h tk ht' S j)
  · have hb' : b = h.objs.size := by simpa using hb
    subst hb'
    refine ⟨(notHere S0.toRd nI0).1, (notHere S0.toRd nI0).2, fun hx => ?_⟩
    have := (hex _ hx).2
    rw [nI0] at this; cases this
  · show IsRangeIter _ _ _ _ _
    have e : Builtin.Range.rangeSize 0 (k : Int) 1 = (k : Int) := by
      rw [rangeSize_one]; split <;> omega
    rw [e]
    simpa using Heap.get?_push_size h (o := { cls := .type "range_iterator", data := .fields #[rawInt 0, rawInt (k : Int), rawInt 1] }) rfl
  · obtain ⟨t, rfl⟩ := hP
    have e : (0 : Int) + (i : Nat) * 1 = i := by omega
    rw [e]
    exact wpAny_of_eq (hgo _ _) (turn i t m cm g' s' ht' hi kg hx' S' j)
/-- for x in a list of ours -/
theorem forList (hh : A.handled = none) (ht : 1 ≤ s.toks) {l : Addr} {vs : List Value} (hl : g.IsList l (List.toArray vs)) {tg iter : Expr} {body : List Stmt} {pos : Pos} {m0 cm0 : Str → Option Value} (ex : List Addr) {Q : Flow → Shared → Prop}
    (J : Nat → (Str → Option Value) → (Str → Option Value) → Heap → Prop)
    (hJ : ∀ I i m cm h h', s.heap.get? I = none → (∀ b o, b ≠ I → h.get? b = some o → h'.get? b = some o) → J i m cm h → J i m cm h')
    (hex : ∀ a ∈ ex, g.get? a = none ∧ (s.heap.get? a).isSome = true) (S0 : St env m0 cm0 g s.heap) (J0 : ∀ h, s.heap.StaysIn h → J 0 m0 cm0 h)
    (hit : ∀ Q' : Value → Shared → Prop, Q' (.ref l) s → wpAny (model prog w) A (eval iter env) Q' E s)
    (hs : ∀ x, foldedSetIterable iter env x = pure x) (hgo : ∀ it v, letOwnedTupleGo tg it v = pure ())
    (turn : ∀ i v m cm g' (s' : Shared), 1 ≤ s'.toks → vs[i]? = some v → g.StaysIn g' → (∀ a ∈ ex, g'.get? a = none) → St env m cm g' s'.heap → J i m cm s'.heap →
      wpAny (model prog w) A (assign tg env v) (fun _ s₂ => wpAny (model prog w) A (execs body env) (Turn s' env g' (J (i + 1))) (fun _ _ => False) s₂) (fun _ _ => False) s')
    (fin : ∀ m cm h tk, 1 ≤ tk → St env m cm g h → J vs.length m cm h → Q .next { s with heap := h, toks := tk }) :
    wpAny (model prog w) A (exec (.For tg iter body [] pos) env) Q E s := by
  refine wpAny_For (hit _ ?_) hs
  have hls := stays_list S0.keep hl
  have nI0 : s.heap.get? s.heap.objs.size = none := fresh1 _ (Nat.le_refl _)
  refine PySem.Flt.iter_list_ hls fun s₂ hs₂ st₂ hfp hlI => ?_
  subst hs₂
  have W := Walks.list (prog := prog) (w := w) (A := A) hh s.heap.objs.size l hlI vs.toArray
  have k2 : s.heap.StaysIn (s.heap.push { cls := .type "list_iterator", data := .fields #[.ref l, .int 0 0] }) := fun b o e => Heap.get?_push_of_some _ e
  have lg : ∃ o, g.get? l = some o := let ⟨o, ho, _⟩ := hl; ⟨o, ho⟩
  refine forRule (s := { s with heap := s.heap.push _ }) W ex J (fun i m cm h1 h2 kk j => hJ _ i m cm h1 h2 nI0 kk j) (none_less S0.keep nI0) (fun b hb => ?_) (fun a ha => (hex a ha).1) ht (S0.keeps k2) st₂ (J0 _ k2) (fun i v m cm g' s' ht' hi hP kg hx' S' j st => ?_) (fun m cm h tk ht' S j => fin m cm h tk ht' S (by simpa using j))
  · rcases List.mem_cons.mp hb with rfl | hb
    · refine ⟨(notHere S0.toRd nI0).1, (notHere S0.toRd nI0).2, fun hx => ?_⟩
      have := (hex _ hx).2
      rw [nI0] at this; cases this
    · have hb' : b = l := by simpa using hb
      subst hb'
      obtain ⟨o, ho⟩ := lg
      refine ⟨fun q => ?_, fun nm c hc q => ?_, fun hx => ?_⟩
      · rw [q, S0.loc] at ho; cases ho
      · rw [q, (S0.cls nm c hc).1] at ho; cases ho
      · rw [(hex _ hx).1] at ho; cases ho
  · exact wpAny_of_eq (hgo _ _) (turn i v m cm g' s' ht' (by simpa using hP) kg hx' S' j)
end
theorem hcl_of {cl cells : List (Str × Addr)} (h : ∀ p ∈ cl, cells.lookup p.1 = some p.2) : ∀ n c, cl.lookup n = some c → cells.lookup n = some c := fun n c hc => h (n, c) (mem_of_lookup hc)
theorem paired_of_get {α β : Type} {F : α → β → Prop} : ∀ {l₁ : List α} {l₂ : List β}, l₁.length = l₂.length → (∀ (i : Nat) a b, l₁[i]? = some a → l₂[i]? = some b → F a b) → Paired F l₁ l₂
  | [], [], _, _ => .nil
  | [], _ :: _, h, _ => by simp at h
  | _ :: _, [], h, _ => by simp at h
  | a :: r, b :: q, h, f => .cons (f 0 a b rfl rfl) (paired_of_get (by simpa using h) fun i a b h1 h2 => f (i + 1) a b h1 h2)
theorem Items.get {g : Heap} {F : Nat → Value → List (Addr × Obj) → Prop} {k : Nat} {ys : List Value} (h : Items g F k ys) {i : Nat} {y : Value} (hy : ys[i]? = some y) : ∃ fr, F i y fr ∧ ∀ p ∈ fr, g.get? p.1 = some p.2 := by
  obtain ⟨h1, frs, h2, h3⟩ := h
  have hi : i < ys.length := by
    rcases Nat.lt_or_ge i ys.length with g | g
    · exact g
    · rw [List.getElem?_eq_none g] at hy; cases hy
  have hf : frs[i]? = some frs[i] := List.getElem?_eq_getElem (by omega)
  exact ⟨_, h3 i y _ hy hf⟩
end
end Mine
namespace Mine
section
open PySem PySem.W PyProof.Rows PySem.SeqAt
section
variable {prog : Program} {w : World} {A : Around} {E : Value → Shared → Prop} {s : Shared} {Q : Value → Shared → Prop}
theorem inTup3 {T : Addr} {x a b c : Int} {t t1 t2 t3 : Tok} (hl : IsTup s.heap T [Value.int a t1, .int b t2, .int c t3].toArray) (h : Q (.bool (decide (x = a ∨ x = b ∨ x = c))) s) : wpAny (model prog w) A (compareOp .In (.int x t) (.ref T)) Q E s := by
  refine in_tupleAt (fun y => match y with | .int i _ => i == x | _ => false) (show s.heap.IsTuple T _ from hl) (fun y hy => ?_) ?_
  · have hy' : y = .int a t1 ∨ y = .int b t2 ∨ y = .int c t3 := by simpa using hy
    rcases hy' with rfl | rfl | rfl <;> exact EqAt.int_int _ _ _ _
  · have e : ([Value.int a t1, .int b t2, .int c t3].toArray.any fun y => match y with | .int i _ => i == x | _ => false) = decide (x = a ∨ x = b ∨ x = c) := by
      by_cases h1 : x = a
      · subst h1; simp
      · by_cases h2 : x = b
        · subst h2; simp
        · by_cases h3 : x = c
          · subst h3; simp
          · simp [h1, h2, h3, Ne.symm h1, Ne.symm h2, Ne.symm h3]
    rw [e]; exact h
end
end
end Mine
namespace Mine
section
open PySem PySem.W PyProof.Rows PySem.SeqAt
theorem Gd.booked {w : World} {h : Heap} (G : Gd w h) : NoneBooked h :=
  ⟨fun _ => none, ⟨_, #[], 0, G.x cStatics { cls := .none, data := .dict #[] } (by with_unfolding_all rfl), rfl, by intro e he; simp at he, fun _ => rfl⟩, rfl⟩
theorem isSameF {M : Model} {A : Around} {E : Value → Shared → Prop} {s : Shared} {y z : UInt64} {u v : Tok} {Q : Bool → Shared → Prop}
    (h0 : u ≠ 0) (h1 : v ≠ 0) (hb : NoneBooked s.heap) (hq : ∀ b, Q b s) : wpAny M A (isSame (.float y u) (.float z v)) Q E s := by
  show wpAny M A (isSame.created (y == z && !Float64.isNaN y) u v) Q E s
  unfold isSame.created
  refine wpAny_ite ?_
  split
  · rename_i h
    rcases Bool.or_eq_true_iff.mp h with g | g
    · exact absurd (by simpa using g) h0
    · exact absurd (by simpa using g) h1
  refine wpAny_ite ?_
  split
  · exact wpAny_pure (hq _)
  refine wpAny_ite ?_
  split
  · exact wpAny_pure (hq _)
  refine wpAny_bind (wpAny_sharingNotTold_none hb ?_)
  first | rw [if_neg Bool.false_ne_true] | simp only [Bool.false_eq_true, if_false]
  refine wpAny_bind (wpAny_sharingNotTold_none hb ?_)
  first | rw [if_neg Bool.false_ne_true] | simp only [Bool.false_eq_true, if_false]
  exact wpAny_bind (wpAny_rule (wpAny_bind (wpAny_askSetting (wpAny_pure (hq _)))))
theorem eqF {A : Around} {s : Shared} {x y : UInt64} {t u : Tok} (ht : t ≠ 0) (hu : u ≠ 0) (hb : NoneBooked s.heap) (e : (Float64.cmp x y == some .eq) = true) : EqAt A s (.float x t) (.float y u) true := fun prog w E Q h => by
  unfold eqBool
  refine wpAny_holding ?_
  refine wpAny_ite_split (fun hab => ?_) (fun _ => ?_)
  · exact wpAny_bind (wpAny_rule (wpAny_pure h))
  · refine wpAny_bind (isSameF ht hu hb fun b => ?_)
    cases b
    · simp only [Bool.false_eq_true, if_false]
      refine wpAny_bind (AutoFloatOps.eq_0 (a := x) (b := y) (t := t) (u := u) ?_)
      rw [e]
      exact wpAny_truthy_bool h
    · simp only [if_true]
      exact wpAny_pure h
section
variable {prog : Program} {w : World} {A : Around} {E : Value → Shared → Prop} {s : Shared} {Q : Value → Shared → Prop}
theorem eqIsF {d a : Int} {v u : Value} (hd : 0 < d) (hb : NoneBooked s.heap) (h1 : IsF d v a) (h2 : IsF d u a) : EqAt A s v u true := by
  obtain ⟨x, t, rfl, ht, Rx⟩ := h1
  obtain ⟨y, t', rfl, ht', Ry⟩ := h2
  exact eqF ht ht' hb (by rw [Rx.eq? Ry hd]; simp)
/-- two colours told the same way do not differ -/
theorem tupNe {T1 T2 : Addr} {v0 v1 v2 u0 u1 u2 : Value} {d0 d1 d2 a0 a1 a2 : Int} (hu : A.units < cLine) (hb : NoneBooked s.heap) (h1 : IsTup s.heap T1 [v0, v1, v2].toArray) (h2 : IsTup s.heap T2 [u0, u1, u2].toArray)
    (p0 : 0 < d0) (p1 : 0 < d1) (p2 : 0 < d2) (x0 : IsF d0 v0 a0) (y0 : IsF d0 u0 a0) (x1 : IsF d1 v1 a1) (y1 : IsF d1 u1 a1) (x2 : IsF d2 v2 a2) (y2 : IsF d2 u2 a2) (h : Q (.bool false) s) :
    wpAny (model prog w) A (compareOp .NotEq (.ref T1) (.ref T2)) Q E s := by
  refine cmp_ofNotEq (RcNeAt.tuples (e := fun _ => true) (show s.heap.IsTuple T1 _ from h1) (show s.heap.IsTuple T2 _ from h2) hu (fun j g1 g2 => ?_) prog w E Q ?_)
  · have hj : j = 0 ∨ j = 1 ∨ j = 2 := by simp at g1; omega
    rcases hj with rfl | rfl | rfl
    · exact eqIsF p0 hb x0 y0
    · exact eqIsF p1 hb x1 y1
    · exact eqIsF p2 hb x2 y2
  · have e : (!((List.range (min [v0, v1, v2].toArray.size [u0, u1, u2].toArray.size)).all (fun _ => true) && [v0, v1, v2].toArray.size == [u0, u1, u2].toArray.size)) = false := by simp
    rw [e]; exact h
theorem floats_of {d : Int} : ∀ {vs : List Value} {as : List Int}, Paired (IsF d) vs as → ∃ bs, PySem.Flt.FloatsAre vs bs ∧ Paired (fun x a => Rep x a d) bs as
  | _, _, .nil => ⟨[], .nil, .nil⟩
  | _, _, .cons ⟨x, t, e, _, R⟩ r => by
    obtain ⟨bs, h1, h2⟩ := floats_of r
    subst e
    exact ⟨x :: bs, .cons x t h1, .cons R h2⟩
theorem sumWalk {l : Addr} {vs : List Value} {xs : List WData} {r : WData} (hh : A.handled = none) (ht : 1 ≤ s.toks) (hl : s.heap.IsList l vs.toArray) (hlen : vs.length = xs.length) (hv : ∀ (i : Nat) v, vs[i]? = some v → ∃ d, xs[i]? = some d ∧ PySem.Flt.NumIs v d) (hr : Num.sumInts 0 xs = some r)
    (h : ∀ v h' tk, 1 ≤ tk → s.heap.StaysIn h' → PySem.Flt.NumIs v r → Q v { s with heap := h', toks := tk }) : wpAny (model prog w) A (call (.builtin "sum") [.ref l]) Q E s := by
  refine wpAny_with_toks (n := 1) ht (PySem.Flt.call_sum_walkF hr (PySem.Flt.iter_list_ hl fun s₂ e st hfp hlI => ?_))
  subst e
  have W := (Walks.list (prog := prog) (w := w) (A := A.in1) hh _ l hlI vs.toArray).toS
  have hlen' : vs.toArray.size = xs.length := by simpa using hlen
  rw [hlen'] at W
  refine ⟨_, _, _, _, _, _, rfl, W, st, hfp, fun i v hP => hv i v (by simpa using hP), fun s' v hv hm => ?_⟩
  obtain ⟨hp, g, d, tk, os⟩ := s'
  have kp := PySem.Flt.kept_iter hm.heap
  have e1 : g = s.gens := hm.gens
  have e2 : d = s.drawn := hm.drawn
  have e3 : os = s.os := hm.os
  subst e1 e2 e3
  exact fun ht' => h v hp tk ht' kp hv
theorem sumF {d : Int} {l : Addr} {vs : List Value} {as : List Int} (p : P2 d) (hh : A.handled = none) (ht : 1 ≤ s.toks) (hl : s.heap.IsList l vs.toArray) (hp : Paired (IsF d) vs as) (h0 : 0 < vs.length) (hn : ∀ a ∈ as, 0 ≤ a) (hs : as.sum ≤ 2 ^ 53)
    (h : ∀ x t h' tk, 1 ≤ tk → s.heap.StaysIn h' → Rep x as.sum d → Q (.float x t) { s with heap := h', toks := tk }) : wpAny (model prog w) A (call (.builtin "sum") [.ref l]) Q E s := by
  obtain ⟨bs, hf, hR⟩ := floats_of hp
  refine sumWalk (xs := bs.map .float) hh ht hl (by rw [List.length_map]; exact hf.length) (fun i v hv => ?_) (PySem.Flt.sumInts_map (by rw [← hf.length]; omega)) fun v h' tk ht' k hv => ?_
  · obtain ⟨b, t, rfl, e⟩ := hf.at i v hv
    exact ⟨.float b, by simp [e], .float b t⟩
  · cases hv
    exact h _ _ h' tk ht' k (sumOf_rep p hR hn hs)
theorem sumInts_nat : ∀ (as : List Int) (a : Int), 0 ≤ a → (∀ x ∈ as, 0 ≤ x) → a + as.sum < 2 ^ 60 → Num.sumInts a (as.map .int) = some (.int (a + as.sum))
  | [], a, _, _, _ => by simp [Num.sumInts]
  | x :: r, a, h0, hx, hs => by
    have hx0 := hx x (List.mem_cons_self ..)
    have hr : ∀ y ∈ r, 0 ≤ y := fun y hy => hx y (List.mem_cons_of_mem _ hy)
    have hsum : 0 ≤ r.sum := by
      clear hs hx
      induction r with
      | nil => simp
      | cons y q ih =>
        have := hr y (List.mem_cons_self ..)
        have := ih fun z hz => hr z (List.mem_cons_of_mem _ hz)
        simp only [List.sum_cons]; omega
    simp only [List.sum_cons] at hs ⊢
    have f1 : Num.fitsLong x = true := by unfold Num.fitsLong; simp; omega
    have f2 : Num.fitsLong (a + x) = true := by unfold Num.fitsLong; simp; omega
    rw [List.map_cons, Num.sumInts, if_pos (by rw [f1, f2]; rfl), sumInts_nat r (a + x) (by omega) hr (by omega), Int.add_assoc]
theorem sumI {l : Addr} {vs : List Value} {as : List Int} (hh : A.handled = none) (ht : 1 ≤ s.toks) (hl : s.heap.IsList l vs.toArray) (hp : Paired IsI vs as) (hn : ∀ a ∈ as, 0 ≤ a) (hs : as.sum < 2 ^ 60)
    (h : ∀ t h' tk, 1 ≤ tk → s.heap.StaysIn h' → Q (.int as.sum t) { s with heap := h', toks := tk }) : wpAny (model prog w) A (call (.builtin "sum") [.ref l]) Q E s := by
  refine sumWalk (xs := as.map .int) hh ht hl (by rw [List.length_map]; exact hp.length) (fun i v hv => ?_) (sumInts_nat as 0 (Int.le_refl _) hn (by omega)) fun v h' tk ht' k hv => ?_
  · obtain ⟨a, ha, t, rfl⟩ := paired_get hp i v hv
    exact ⟨.int a, by simp [ha], .int a t⟩
  · cases hv
    rw [Int.zero_add]
    exact h _ h' tk ht' k
/-- for .. in a tuple that stands -/
theorem forTup {env : Env} {g : Heap} (hh : A.handled = none) (ht : 1 ≤ s.toks) {T : Addr} {vs : List Value} (hT : IsTup g T (List.toArray vs)) {tg : Expr} {body : List Stmt} {m0 cm0 : Str → Option Value} {Q : Flow → Shared → Prop}
    (J : Nat → (Str → Option Value) → (Str → Option Value) → Prop) (S0 : St env m0 cm0 g s.heap) (J0 : J 0 m0 cm0)
    (hgo : ∀ I v i (s' : Shared) (Q : Unit → Shared → Prop) (E : Value → Shared → Prop), vs[i]? = some v → s'.heap.IsTupleIter I T (i + 1) → Q () s' → wpAny (model prog w) A (letOwnedTupleGo tg (.ref I) v) Q E s')
    (turn : ∀ i v m cm g' (s' : Shared), 1 ≤ s'.toks → vs[i]? = some v → g.StaysIn g' → St env m cm g' s'.heap → J i m cm →
      wpAny (model prog w) A (assign tg env v) (fun _ s₂ => wpAny (model prog w) A (execs body env) (Turn s' env g' (fun m cm _ => J (i + 1) m cm)) (fun _ _ => False) s₂) (fun _ _ => False) s')
    (fin : ∀ m cm h tk, 1 ≤ tk → St env m cm g h → J vs.length m cm → Q .next { s with heap := h, toks := tk }) :
    wpAny (model prog w) A (pyIter (.ref T)) (fun it s₂ => codeAny (model prog w) A (.forLoop tg it body [] env) (fun r s' => match r with | .ok f => Q f s' | .error e => cameBackBy (model prog w) A env E e s') s₂) E s := by
  have hTs : IsTup s.heap T (List.toArray vs) := IsTup.keeps hT S0.keep
  have nI0 : s.heap.get? s.heap.objs.size = none := fresh1 _ (Nat.le_refl _)
  have lg : ∃ o, g.get? T = some o := let ⟨o, ho, _⟩ := hT; ⟨o, ho⟩
  have hlt : T ≠ s.heap.objs.size := by obtain ⟨o, ho, _⟩ := hTs; exact Nat.ne_of_lt (Heap.lt_size ho)
  refine wpAny_pyIter_tuple (show s.heap.IsTuple T _ from hTs) ?_
  have W := Walks.tuple (prog := prog) (w := w) (A := A) hh s.heap.objs.size T hlt vs.toArray
  have k2 : s.heap.StaysIn (s.heap.push { cls := .type "tuple_iterator", data := .fields #[.ref T, .int 0 0] }) := fun b o e => Heap.get?_push_of_some _ e
  refine forRule (s := { s with heap := s.heap.push _ }) W [] (fun i m cm _ => J i m cm) (fun i m cm h1 h2 kk j => j) (none_less S0.keep nI0) (fun b hb => ?_) (by simp) ht (S0.keeps k2) ⟨⟨_, Heap.get?_push_size _ rfl, rfl, rfl⟩, (show Heap.IsTuple s.heap T _ from hTs).push _⟩ J0 (fun i v m cm g' s' ht' hi hP kg hx' S' j st => ?_) (fun m cm h tk ht' S j => fin m cm h tk ht' S (by simpa using j))
  · rcases List.mem_cons.mp hb with rfl | hb
    · exact ⟨(notHere S0.toRd nI0).1, (notHere S0.toRd nI0).2, by simp⟩
    · have hb' : b = T := by simpa using hb
      subst hb'
      obtain ⟨o, ho⟩ := lg
      refine ⟨fun q => ?_, fun nm c hc q => ?_, by simp⟩
      · rw [q, S0.loc] at ho; cases ho
      · rw [q, (S0.cls nm c hc).1] at ho; cases ho
  · exact hgo _ v i _ _ _ (by simpa using hP) st.1 (turn i v m cm g' s' ht' (by simpa using hP) kg S' j)
theorem goTup {elts : List Expr} {x1 : Nat} {pos : Pos} {I t T : Addr} {i : Nat} {Q : Unit → Shared → Prop} (hit : s.heap.IsTupleIter I t i) (hQ : Q () s) : wpAny (model prog w) A (letOwnedTupleGo (.Tuple elts x1 pos) (.ref I) (.ref T)) Q E s := by
  obtain ⟨o, ho, hc, hd⟩ := hit
  unfold letOwnedTupleGo
  refine wpAny_bind (wpAny_load ho ?_)
  rw [hc, hd]
  simp only
  rw [if_neg (by rw [show (["enumerate", "zip", "dict_itemiterator", "dict_reverseitemiterator", "odict_iterator", "itertools.zip_longest", "itertools.pairwise"].contains "tuple_iterator") = false by decide]; simp)]
  exact wpAny_pure hQ
/-- a tuple taken apart -/
theorem apartT {env : Env} {elts : List Expr} {x1 : Nat} {pos : Pos} {t : Addr} {vs : List Value} {Q : Unit → Shared → Prop} (hh : A.handled = none) (ht : IsTup s.heap t (List.toArray vs))
    (hn : (assignEach elts env).length = vs.length) (hstar : (assignEach elts env).findIdx? (·.1) = none)
    (h : ∀ h', s.heap.StaysIn h' → wpAny (model prog w) A (assignInOrder ((assignEach elts env).map (·.2)) vs) Q E { s with heap := h' }) :
    wpAny (model prog w) A (assign (.Tuple elts x1 pos) env (.ref t)) Q E s :=
  assign_Tuple_tuple hh ht (by simpa using hn) hstar fun h' he => h h' fun b o e => he b o (Nat.ne_of_lt (Heap.lt_size e)) e
theorem apartL {env : Env} {elts : List Expr} {x1 : Nat} {pos : Pos} {t : Addr} {vs : List Value} {Q : Unit → Shared → Prop} (hh : A.handled = none) (ht : s.heap.IsList t (List.toArray vs))
    (hn : (assignEach elts env).length = vs.length) (hstar : (assignEach elts env).findIdx? (·.1) = none)
    (h : ∀ h', s.heap.StaysIn h' → wpAny (model prog w) A (assignInOrder ((assignEach elts env).map (·.2)) vs) Q E { s with heap := h' }) :
    wpAny (model prog w) A (assign (.Tuple elts x1 pos) env (.ref t)) Q E s := by
  rw [assign_Tuple]
  refine wpAny_bind (wpAny_standAt ?_)
  unfold unpack
  rw [show (assignEach elts env).length = (List.toArray vs).size by simpa using hn, hstar]
  exact wpAny_bind (wpAny_holding (kun_itemsOf hh ht fun h' he => h h' fun b o e => he b o (Nat.ne_of_lt (Heap.lt_size e)) e))
end
end
end Mine
namespace Mine
local macro_rules | `(tactic| walk_at "mine env") => `(tactic| first | with_unfolding_all rfl | ((rename _ = callEnvC _ _ _ => kE); rw [kE]; with_unfolding_all rfl))
local macro_rules | `(tactic| walk_at "mine rd") => `(tactic| first | exact St.toRd (by assumption) | assumption | exact Bk.toRd (by assumption))
local macro_rules | `(tactic| walk_at "mine val") => `(tactic| with_unfolding_all first | rfl | assumption)
local macro_rules | `(tactic| walk_at "eval Name") => `(tactic| (refine' nmB ?R ?G ?hx ?hk ?hg ?hb ?e ?hv ?hn ?_ ?hd; (case hx => walk_at "mine env"); (case R => walk_at "mine rd"); (case G => assumption); (case hk => walk_at "mine env"); (case hg => walk_at "mine env"); (case hb => walk_at "mine env"); (case e => k_is); (case hv => with_unfolding_all boot_by_name); (case hn => decide); (case hd => decide)))
local macro_rules | `(tactic| walk_at "eval Name") => `(tactic| (refine' nmG ?R ?G ?hx ?hk ?hg ?e ?_ ?hd; (case hx => walk_at "mine env"); (case R => walk_at "mine rd"); (case G => assumption); (case hk => walk_at "mine env"); (case hg => walk_at "mine env"); (case e => k_is); (case hd => decide)))
local macro_rules | `(tactic| walk_at "eval Name") => `(tactic| (refine' nmC ?R ?hx ?hk ?hc ?hv ?_ ?hd; (case hx => walk_at "mine env"); (case R => walk_at "mine rd"); (case hk => walk_at "mine env"); (case hc => walk_at "mine env"); (case hv => walk_at "mine val"); (case hd => decide)))
local macro_rules | `(tactic| walk_at "eval Name") => `(tactic| (refine' nmL ?R ?hx ?hk ?hv ?_ ?hd; (case hx => walk_at "mine env"); (case R => walk_at "mine rd"); (case hk => walk_at "mine env"); (case hv => walk_at "mine val"); (case hd => decide)))
local macro_rules | `(tactic| walk_at "storeName") => `(tactic| first
  | (refine' stL ?S ?ht ?hx ?hk ?_; (case hx => walk_at "mine env"); (case S => assumption); (case ht => walk_at "mine tok"); (case hk => walk_at "mine env"); intro h' tk' ht' S')
  | (refine' stC ?S ?ht ?hx ?hk ?hc ?_; (case hx => walk_at "mine env"); (case S => assumption); (case ht => walk_at "mine tok"); (case hk => walk_at "mine env"); (case hc => walk_at "mine env"); intro h' tk' ht' S'))
local macro_rules | `(tactic| walk_at "mine tok") => `(tactic| first | assumption | (dsimp only; omega))
local macro_rules | `(tactic| walk_at "mine kept") => `(tactic| (intro t' h' tk' ht' k'; (first | have S' := St.keeps (by assumption) k' | have S' := Bk.keeps (by assumption) k')))
local macro_rules | `(tactic| walk_at "call builtin:min") => `(tactic| ((with_reducible show wpAny _ _ (call (Value.builtin _) [Value.int _ _, Value.int _ _]) _ _ _); refine minI (AOk.hh (by assumption)) (by walk_at "mine tok") ?_; walk_at "mine kept"))
local macro_rules | `(tactic| walk_at "call builtin:max") => `(tactic| ((with_reducible show wpAny _ _ (call (Value.builtin _) [Value.int _ _, Value.int _ _]) _ _ _); refine maxI (AOk.hh (by assumption)) (by walk_at "mine tok") ?_; walk_at "mine kept"))
local macro_rules | `(tactic| walk_at "callWith ref") => `(tactic| (k_dflt (refine' callWith_K (Gd.x (by assumption)) ?k2 ?_; (case k2 => k_is); k_whole)))
local macro_rules | `(tactic| walk_at "And") => `(tactic| ((with_reducible show Frag.In _ _ ∧ _); k_dflt (refine ⟨inKeep (by assumption) (by walk_at "mine rd"), ?_⟩); try dsimp only [List.nil_append, List.cons_append]))
local macro_rules | `(tactic| walk_at "exec Expr") => `(tactic| (refine wpAny_Expr ?_ (by walk_at "mine env") (by walk_at "mine env")))
local macro_rules | `(tactic| walk_at "mine eq") => `(tactic| ((rename _ = callEnvC _ _ _ => kE); rw [kE]; with_unfolding_all rfl))
local macro_rules | `(tactic| walk_at "mine comp") => `(tactic| ((try (case hsw => walk_at "mine eq")); (case hclos => walk_at "mine eq"); (case hkind => rfl); (case hcell => decide); (case hnames => decide); (case hs => intro _; rfl); (case hcl => ((rename _ = callEnvC _ _ _ => kE); rw [kE]; repeat' (first | exact List.forall_mem_nil _ | refine List.forall_mem_cons.mpr ⟨by with_unfolding_all rfl, ?_⟩))); (try (case hy => walk_at "mine eq")); (try (case hek => walk_at "mine eq"))))
local macro_rules | `(tactic| walk_at "mine fill") => `(tactic| (refine fillX (Gd.x (by assumption)) ?_; k_fill; intro kX'; clear kX'))
local macro_rules | `(tactic| walk_at "mine entered") => `(tactic| ((case G => assumption); (case a => assumption); (case ht => assumption); (case hK => k_is); (case hcd => k_is); (case hbody => exact rfl); (case hbind => exact rfl); (case hclo => exact rfl); (case hkind => exact rfl); (case hlb => with_unfolding_all rfl); (case hcb => with_unfolding_all rfl); (case hco => exact rfl); (case hgen => exact rfl); (case hk => exact rfl)))
local macro_rules | `(tactic| walk_at "mine go") => `(tactic| repeat' (first | (k_unfold; (try dsimp only)) | walk1 | (dsimp only; walk1)))
section
def medLo (as : List Int) : Int := (srt as).getD ((as.length - 1) / 2) 0
def medHi (as : List Int) : Int := (srt as).getD (as.length / 2) 0
theorem med_at {Is : Value → Int → Prop} {vs : List Value} {as : List Int} {i : Nat} {v : Value} (h : Paired Is vs as) (hv : vs[i]? = some v) : Is v (as.getD i 0) := by
  obtain ⟨b, hb, q⟩ := paired_get h i v hv
  simp [List.getD_eq_getElem?_getD, hb, q]
theorem medLo_spec {Is : Value → Int → Prop} (hS : Sorts Is) {w : World} {A : Around} {s : Shared} {k : Nat} (G : Gd w s.heap) (a : AOk A (k + 1)) (ht : 1 ≤ s.toks) {l : Addr} {vs : List Value} {as : List Int} (hl : s.heap.IsList l vs.toArray) (hp : Paired Is vs as) (h0 : 0 < vs.length) (h64 : vs.length < 64) :
   codeAny (model Pr w) A (.call (.ref 48) ⟨[.ref l], []⟩) (Ret s fun v _ => Is v (medLo as)) s := by
  walk_at "mine fill"
  refine' enter [("data", .ref l)] [] ?G ?a ?ht ?hK ?hcd ?hbody ?hbind ?hclo ?hkind ?hlb ?hcb ?h ?hco ?hgen ?hk
  walk_at "mine entered"
  clear a G ht
  intro A env h₁ tk hE ht a G S
  k_fold
  walk_at "mine go"
  refine hS (stays_list S.keep hl) hp h64 ?_
  intro D vs' h2 k2 n2 hl2 hp2
  obtain ⟨g2, S2, kg, nw⟩ := S.grow k2
  have hl3 := isList_new n2 hl2 nw
  have hlen : vs'.length = vs.length := by rw [hp2.length, srt_length, hp.length]
  clear S hl2 hl
  have G2 := G.keeps kg
  walk_at "mine go"
  rename_i h3 tk3 ht3 S3
  refine lenL (stays_list S3.keep hl3) (by omega) (by walk_at "mine tok") ?_
  intro n t4 tk4 ht4 hn
  have hn0 : 0 < n := by omega
  have f1 : n.fdiv 2 = n / 2 := Int.fdiv_eq_ediv_of_nonneg _ (by decide)
  have f2 : n.fmod 2 = n % 2 := Int.fmod_eq_emod_of_nonneg _ (by decide)
  walk_at "mine go"
  · exfalso; omega
  · rename_i h4 tk4 ht4 S4 c0 c
    refine itemL (stays_list S4.keep hl3) (by omega) (by omega) (by omega) fun v hv => ?_
    refine Done.of S4 kg ?_
    have e : (n.fdiv 2).toNat = (as.length - 1) / 2 := by have := hp.length; omega
    rw [e] at hv
    exact med_at hp2 hv
  · rename_i h4 tk4 ht4 S4 c0 c
    refine itemL (stays_list S4.keep hl3) (by omega) (by omega) (by omega) fun v hv => ?_
    refine Done.of S4 kg ?_
    have e : (n.fdiv 2 - 1).toNat = (as.length - 1) / 2 := by have := hp.length; omega
    rw [e] at hv
    exact med_at hp2 hv
theorem medHi_spec {Is : Value → Int → Prop} (hS : Sorts Is) {w : World} {A : Around} {s : Shared} {k : Nat} (G : Gd w s.heap) (a : AOk A (k + 1)) (ht : 1 ≤ s.toks) {l : Addr} {vs : List Value} {as : List Int} (hl : s.heap.IsList l vs.toArray) (hp : Paired Is vs as) (h0 : 0 < vs.length) (h64 : vs.length < 64) :
   codeAny (model Pr w) A (.call (.ref 55) ⟨[.ref l], []⟩) (Ret s fun v _ => Is v (medHi as)) s := by
  walk_at "mine fill"
  refine' enter [("data", .ref l)] [] ?G ?a ?ht ?hK ?hcd ?hbody ?hbind ?hclo ?hkind ?hlb ?hcb ?h ?hco ?hgen ?hk
  walk_at "mine entered"
  clear a G ht
  intro A env h₁ tk hE ht a G S
  k_fold
  walk_at "mine go"
  refine hS (stays_list S.keep hl) hp h64 ?_
  intro D vs' h2 k2 n2 hl2 hp2
  obtain ⟨g2, S2, kg, nw⟩ := S.grow k2
  have hl3 := isList_new n2 hl2 nw
  have hlen : vs'.length = vs.length := by rw [hp2.length, srt_length, hp.length]
  clear S hl2 hl
  have G2 := G.keeps kg
  walk_at "mine go"
  rename_i h3 tk3 ht3 S3
  refine lenL (stays_list S3.keep hl3) (by omega) (by walk_at "mine tok") ?_
  intro n t4 tk4 ht4 hn
  have hn0 : 0 < n := by omega
  have f1 : n.fdiv 2 = n / 2 := Int.fdiv_eq_ediv_of_nonneg _ (by decide)
  have f2 : n.fmod 2 = n % 2 := Int.fmod_eq_emod_of_nonneg _ (by decide)
  walk_at "mine go"
  · exfalso; omega
  · rename_i h4 tk4 ht4 S4 c0
    refine itemL (stays_list S4.keep hl3) (by omega) (by omega) (by omega) fun v hv => ?_
    refine Done.of S4 kg ?_
    have e : (n.fdiv 2).toNat = as.length / 2 := by have := hp.length; omega
    rw [e] at hv
    exact med_at hp2 hv
end
section
def wayI (p j n : Int) : Int := min ((p - 2 * j * n) % (6 * n)) (6 * n - (p - 2 * j * n) % (6 * n))
theorem way_spec {w : World} {A : Around} {s : Shared} {k : Nat} (G : Gd w s.heap) (a : AOk A (k + 1)) (ht : 1 ≤ s.toks) (p j n : Int) (t1 t2 t3 : Tok) (hn : 0 < n) (hn' : n < 2 ^ 20) (hp : p.natAbs < 2 ^ 30) (hj : 0 ≤ j ∧ j < 3) :
   codeAny (model Pr w) A (.call (.ref 62) ⟨[.int p t1, .int j t2, .int n t3], []⟩) (Ret s fun v _ => ∃ t, v = .int (wayI p j n) t) s := by
  walk_at "mine fill"
  refine' enter [("n", .int n t3), ("j", .int j t2), ("place", .int p t1)] [] ?G ?a ?ht ?hK ?hcd ?hbody ?hbind ?hclo ?hkind ?hlb ?hcb ?h ?hco ?hgen ?hk
  walk_at "mine entered"
  clear a G ht
  intro A env h₁ tk hE ht a G S
  k_fold
  walk_at "mine go"
  refine Done.of (by assumption) (stays_refl _) ?_
  unfold wayI
  rw [← Int.fmod_eq_emod_of_nonneg _ (show 0 ≤ 6 * n by omega)]
  exact ⟨_, rfl⟩
def highI (way n : Int) : Int := min (max (2 * n - way) 0) n
def partI (way n share value : Int) : Int := value * (1024 * n - share * (n - highI way n))
theorem part_bd {way n share value : Int} (p : Prm n share value) : 0 ≤ partI way n share value ∧ partI way n share value ≤ 268435456 * 1024 := by
  have h1 := p.n16
  have h2 := p.n18
  have h3 := p.s1
  have h4 := p.s2
  have h5 := p.v1
  have h6 := p.v2
  have e1 := mul_bd (a := share) (b := n - highI way n) (x := 1024) (y := n) (by omega) h4 (by unfold highI; omega) (by unfold highI; omega)
  have e2 := mul_bd (a := value) (b := 1024 * n - share * (n - highI way n)) (x := 1024) (y := 268435456) (by omega) h6 (by omega) (by omega)
  unfold partI
  omega
theorem part_spec {w : World} {A : Around} {s : Shared} {k : Nat} (G : Gd w s.heap) (a : AOk A (k + 1)) (ht : 1 ≤ s.toks) (way n share value : Int) (t1 t2 t3 t4 : Tok) (p : Prm n share value) (hw : way.natAbs < 2 ^ 30) :
   codeAny (model Pr w) A (.call (.ref 69) ⟨[.int way t1, .int n t2, .int share t3, .int value t4], []⟩) (Ret s fun v _ => IsF (1048576 * n) v (partI way n share value)) s := by
  walk_at "mine fill"
  refine' enter [("value", .int value t4), ("share", .int share t3), ("n", .int n t2), ("way", .int way t1)] [] ?G ?a ?ht ?hK ?hcd ?hbody ?hbind ?hclo ?hkind ?hlb ?hcb ?h ?hco ?hgen ?hk
  walk_at "mine entered"
  clear a G ht
  intro A env h₁ tk hE ht a G S
  k_fold
  have h1 := p.n16
  have h2 := p.n18
  have h3 := p.s1
  have h4 := p.s2
  have h5 := p.v1
  have h6 := p.v2
  walk_at "mine go"
  have hb := part_bd (way := way) p
  refine divI (partI way n share value) (1048576 * n) a.hh (by walk_at "mine tok") (by omega) p.pD (by omega) rfl (by unfold partI highI at hb; omega) ?_
  intro x t' tk' htk' ht' hx
  exact Done.of (by assumption) (stays_refl _) ⟨_, _, rfl, ht', hx⟩
def hueI (place corner n : Int) : Int := (place + corner * n) % (6 * n) / 6
theorem hue_bd {place corner n : Int} (hn : 0 < n) : 0 ≤ hueI place corner n ∧ hueI place corner n < n := by
  have h1 := Int.emod_nonneg (place + corner * n) (show 6 * n ≠ 0 by omega)
  have h2 := Int.emod_lt_of_pos (place + corner * n) (show 0 < 6 * n by omega)
  unfold hueI
  omega
theorem hue_spec {w : World} {A : Around} {s : Shared} {k : Nat} (G : Gd w s.heap) (a : AOk A (k + 1)) (ht : 1 ≤ s.toks) (place corner n : Int) {share value : Int} (t1 t2 t3 : Tok) (p : Prm n share value) (hp : place.natAbs < 2 ^ 30) (hc : 0 ≤ corner ∧ corner < 6) :
   codeAny (model Pr w) A (.call (.ref 88) ⟨[.int place t1, .int corner t2, .int n t3], []⟩) (Ret s fun v _ => IsF n v (hueI place corner n)) s := by
  walk_at "mine fill"
  refine' enter [("n", .int n t3), ("corner", .int corner t2), ("place", .int place t1)] [] ?G ?a ?ht ?hK ?hcd ?hbody ?hbind ?hclo ?hkind ?hlb ?hcb ?h ?hco ?hgen ?hk
  walk_at "mine entered"
  clear a G ht
  intro A env h₁ tk hE ht a G S
  k_fold
  have h1 := p.n16
  have h2 := p.n18
  walk_at "mine go"
  have hb := hue_bd (place := place) (corner := corner) (show 0 < n by omega)
  have e : ((place + corner * n).fmod (6 * n)).fdiv 6 = hueI place corner n := by
    unfold hueI
    rw [Int.fmod_eq_emod_of_nonneg _ (show 0 ≤ 6 * n by omega), Int.fdiv_eq_ediv_of_nonneg _ (by decide)]
  rw [e]
  refine divI (hueI place corner n) n a.hh (by walk_at "mine tok") (by omega) p.pn (by omega) rfl (by omega) ?_
  intro x t' tk' htk' ht' hx
  exact Done.of (by assumption) (stays_refl _) ⟨_, _, rfl, ht', hx⟩
end
section
theorem emod_at {x y n u : Int} (h0 : 0 ≤ y) (h1 : y < 6 * n) (h : x = y + 6 * n * u) : x % (6 * n) = y := by
  rw [h, Int.add_mul_emod_self_left]; exact Int.emod_eq_of_lt h0 h1
/-- what stands at the sixth e, r parts in -/
def hiAt (e r n : Int) : Int := if e = 0 then n else if e = 1 then n - r else if e = 2 then 0 else if e = 3 then 0 else if e = 4 then r else n
theorem high_at {x j n r e u : Int} (hr0 : 0 ≤ r) (hr1 : r < n) (he0 : 0 ≤ e) (he1 : e < 6) (h : x - 2 * j * n = e * n + r + 6 * n * u) : highI (wayI x j n) n = hiAt e r n := by
  have hE : e = 0 ∨ e = 1 ∨ e = 2 ∨ e = 3 ∨ e = 4 ∨ e = 5 := by omega
  unfold wayI
  rw [emod_at (y := e * n + r) (u := u) ?_ ?_ h]
  · unfold highI hiAt
    rcases hE with rfl | rfl | rfl | rfl | rfl | rfl <;> simp <;> omega
  · rcases hE with rfl | rfl | rfl | rfl | rfl | rfl <;> omega
  · rcases hE with rfl | rfl | rfl | rfl | rfl | rfl <;> omega
theorem high_case {x j n r c u : Int} (hn : 0 < n) (hr0 : 0 ≤ r) (hr1 : r < n) (hc0 : 0 ≤ c) (hc1 : c < 6) (hj0 : 0 ≤ j) (hj1 : j < 3) (h : x = (6 * u + c) * n + r) : highI (wayI x j n) n = hiAt ((c - 2 * j) % 6) r n := by
  rcases Int.lt_or_le (c - 2 * j) 0 with g | g
  · have e : (c - 2 * j) % 6 = c - 2 * j + 6 := by omega
    rw [e]
    refine high_at (u := u - 1) hr0 hr1 (by omega) (by omega) ?_
    rw [h]; grind
  · have e : (c - 2 * j) % 6 = c - 2 * j := by omega
    rw [e]
    refine high_at (u := u) hr0 hr1 (by omega) (by omega) ?_
    rw [h]; grind
end
section
theorem rep_six : Rep 4618441417868443648 6 1 := by
  have := rep_ofInt (n := 6) (by decide)
  have e : Float64.ofInt 6 = 4618441417868443648 := by decide +kernel
  rwa [e] at this
theorem Rep.mulI {x y : UInt64} {a b d : Int} (hx : Rep x a d) (hy : Rep y b 1) (p : P2 d) (hc : (a * b).natAbs ≤ 2 ^ 53) : Rep (Float64.mul x y) (a * b) d := by
  have := hx.mul hy p.pos (by decide) (by rwa [Int.mul_one]) hc
  rwa [Int.mul_one] at this
def colI (num j n share value : Int) : Int := partI (wayI (6 * num) j n) n share value
def Col (h₀ h' : Heap) (v : Value) (D c0 c1 c2 : Int) : Prop := ∃ T v0 v1 v2, v = .ref T ∧ h₀.get? T = none ∧ IsTup h' T [v0, v1, v2].toArray ∧ IsF D v0 c0 ∧ IsF D v1 c1 ∧ IsF D v2 c2
theorem hsv_spec {w : World} {A : Around} {s : Shared} {k : Nat} (G : Gd w s.heap) (a : AOk A (k + 1)) (ht : 1 ≤ s.toks) {n share value : Int} (p : Prm n share value) (num : Int) (hn0 : 0 ≤ num) (hn1 : num < 8 * n) {hx sx vx : UInt64} {t1 t2 t3 : Tok} (ht3 : t3 ≠ 0)
   (Rh : Rep hx num n) (Rs : Rep sx share 1024) (Rv : Rep vx value 1024) :
   codeAny (model Pr w) A (.call (.ref 28) ⟨[.float hx t1, .float sx t2, .float vx t3], []⟩) (Ret s fun v h' => Col s.heap h' v (1048576 * n) (colI num 0 n share value) (colI num 1 n share value) (colI num 2 n share value)) s := by
  walk_at "mine fill"
  refine' enter [("v", .float vx t3), ("s", .float sx t2), ("h", .float hx t1)] [] ?G ?a ?ht ?hK ?hcd ?hbody ?hbind ?hclo ?hkind ?hlb ?hcb ?h ?hco ?hgen ?hk
  walk_at "mine entered"
  clear a G ht
  intro A env h₁ tk hE ht a G S
  k_fold
  have h1 := p.n16
  have h2 := p.n18
  have h3 := p.s1
  have h4 := p.s2
  have h5 := p.v1
  have h6 := p.v2
  walk_at "mine go"
  · exfalso
    rename_i c
    rw [Rs.eq? (rep_nil 1024) (by decide)] at c
    simp at c
    omega
  have R6 := Rh.mulI rep_six p.pn (by omega)
  refine intF (by walk_at "mine tok") R6 (by omega) (by omega) ?_
  intro i ti tki htki hi
  obtain ⟨r, hr0, hr1, hr⟩ : ∃ r, 0 ≤ r ∧ r < n ∧ num * 6 = i * n + r := by
    refine ⟨num * 6 % n, Int.emod_nonneg _ (by omega), Int.emod_lt_of_pos _ (by omega), ?_⟩
    rw [hi, Int.mul_comm (num * 6 / n) n]
    exact (Int.mul_ediv_add_emod _ _).symm
  have hi0 : 0 ≤ i := by rw [hi]; exact Int.ediv_nonneg (by omega) (by omega)
  have hi1 : i < 48 := by rw [hi]; exact Int.ediv_lt_of_lt_mul (by omega) (by omega)
  have Ri : Rep (Float64.ofInt i) (i * n) n := by
    have := (rep_ofInt (n := i) (by omega)).scale n
    rwa [Int.one_mul] at this
  have Rf : Rep (Float64.sub (Float64.mul hx 4618441417868443648) (Float64.ofInt i)) r n := by
    have := R6.sub Ri p.pn (by omega)
    rwa [show num * 6 - i * n = r by omega] at this
  have b1 := mul_bd (a := share) (b := r) (x := 1024) (y := 262144) (by omega) h4 (by omega) (by omega)
  have b2 := mul_bd (a := share) (b := n - r) (x := 1024) (y := 262144) (by omega) h4 (by omega) (by omega)
  have c1 := mul_bd (a := share) (b := r) (x := 1024) (y := n) (by omega) h4 (by omega) (by omega)
  have c2 := mul_bd (a := share) (b := n - r) (x := 1024) (y := n) (by omega) h4 (by omega) (by omega)
  have d1 := mul_bd (a := value) (b := 1024 * n - share * r) (x := 1024) (y := 268435456) (by omega) h6 (by omega) (by omega)
  have d2 := mul_bd (a := value) (b := 1024 * n - share * (n - r)) (x := 1024) (y := 268435456) (by omega) h6 (by omega) (by omega)
  have d3 := mul_bd (a := value) (b := 1024 - share) (x := 1024) (y := 1024) (by omega) h6 (by omega) (by omega)
  have pD' : P2 (1024 * (1024 * n)) := by have := p.pD; rwa [show 1024 * (1024 * n) = 1048576 * n by omega]
  have R1 : Rep 4607182418800017408 (1024 * n) (1024 * n) := by have := rep_one.scale (1024 * n); rwa [Int.one_mul] at this
  have R1n : Rep 4607182418800017408 n n := by have := rep_one.scale n; rwa [Int.one_mul] at this
  have R1s : Rep 4607182418800017408 1024 1024 := rep_one.scale 1024
  have Rq : Rep (Float64.mul vx (Float64.sub 4607182418800017408 (Float64.mul sx (Float64.sub (Float64.mul hx 4618441417868443648) (Float64.ofInt i))))) (value * (1024 * n - share * r)) (1048576 * n) := by
    have q1 := Rs.mul Rf (by decide) p.pn.pos p.pn1024 (by omega)
    have q2 := R1.sub q1 p.pn1024 (by omega)
    have q3 := Rv.mul q2 (by decide) p.pn1024.pos pD' (by omega)
    rwa [show 1024 * (1024 * n) = 1048576 * n by omega] at q3
  have Rt : Rep (Float64.mul vx (Float64.sub 4607182418800017408 (Float64.mul sx (Float64.sub 4607182418800017408 (Float64.sub (Float64.mul hx 4618441417868443648) (Float64.ofInt i)))))) (value * (1024 * n - share * (n - r))) (1048576 * n) := by
    have q0 := R1n.sub Rf p.pn (by omega)
    have q1 := Rs.mul q0 (by decide) p.pn.pos p.pn1024 (by omega)
    have q2 := R1.sub q1 p.pn1024 (by omega)
    have q3 := Rv.mul q2 (by decide) p.pn1024.pos pD' (by omega)
    rwa [show 1024 * (1024 * n) = 1048576 * n by omega] at q3
  have Rp : Rep (Float64.mul vx (Float64.sub 4607182418800017408 sx)) (value * (1024 * n - share * (n - 0))) (1048576 * n) := by
    have q2 := R1s.sub Rs p2_1024 (by omega)
    have q3 := Rv.mul q2 (by decide) (by decide) ⟨20, by decide, by decide⟩ (by omega)
    have q4 := q3.scale n
    rwa [show value * (1024 - share) * n = value * (1024 * n - share * (n - 0)) by grind] at q4
  have RV : Rep vx (value * (1024 * n - share * (n - n))) (1048576 * n) := by
    have q := Rv.scale (1024 * n)
    rwa [show value * (1024 * n) = value * (1024 * n - share * (n - n)) by grind, show 1024 * (1024 * n) = 1048576 * n by omega] at q
  rw [show n - r = n - r from rfl] at Rt
  have Rq' : Rep (Float64.mul vx (Float64.sub 4607182418800017408 (Float64.mul sx (Float64.sub (Float64.mul hx 4618441417868443648) (Float64.ofInt i))))) (value * (1024 * n - share * (n - (n - r)))) (1048576 * n) := by
    rwa [show n - (n - r) = r by omega]
  clear Rq R1 R1n R1s Ri Rf R6 d1 d2 d3 b1 b2 c1 c2
  have hfm : i.fmod 6 = i % 6 := Int.fmod_eq_emod_of_nonneg _ (by decide)
  have key : ∀ c j : Int, i % 6 = c → 0 ≤ j → j < 3 → colI num j n share value = value * (1024 * n - share * (n - hiAt ((c - 2 * j) % 6) r n)) := by
    intro c j hc hj0 hj1
    unfold colI partI
    rw [high_case (u := i / 6) (c := c) (r := r) (by omega) hr0 hr1 (by omega) (by omega) hj0 hj1 ?_]
    rw [show 6 * (i / 6) + c = i by omega]
    omega
  walk_at "mine go"
  all_goals (try rw [hfm] at *)
  · refine newT (by simp) ?_
    intro T hT' nT kT hT
    walk_at "mine go"
    rename_i cc
    refine Done.of (St.keeps (by assumption) kT) (stays_refl _) ⟨T, _, _, _, rfl, none_less (Rd.keep (St.toRd (by assumption))) nT, hT, ?_, ?_, ?_⟩
    · rw [key 0 0 cc (by decide) (by decide)]; exact ⟨_, _, rfl, ht3, RV⟩
    · rw [key 0 1 cc (by decide) (by decide)]; exact ⟨_, _, rfl, Nat.succ_ne_zero _, Rt⟩
    · rw [key 0 2 cc (by decide) (by decide)]; exact ⟨_, _, rfl, Nat.succ_ne_zero _, Rp⟩
  · refine newT (by simp) ?_
    intro T hT' nT kT hT
    walk_at "mine go"
    rename_i cc
    refine Done.of (St.keeps (by assumption) kT) (stays_refl _) ⟨T, _, _, _, rfl, none_less (Rd.keep (St.toRd (by assumption))) nT, hT, ?_, ?_, ?_⟩
    · rw [key 1 0 cc (by decide) (by decide)]; exact ⟨_, _, rfl, Nat.succ_ne_zero _, Rq'⟩
    · rw [key 1 1 cc (by decide) (by decide)]; exact ⟨_, _, rfl, ht3, RV⟩
    · rw [key 1 2 cc (by decide) (by decide)]; exact ⟨_, _, rfl, Nat.succ_ne_zero _, Rp⟩
  · refine newT (by simp) ?_
    intro T hT' nT kT hT
    walk_at "mine go"
    rename_i cc
    refine Done.of (St.keeps (by assumption) kT) (stays_refl _) ⟨T, _, _, _, rfl, none_less (Rd.keep (St.toRd (by assumption))) nT, hT, ?_, ?_, ?_⟩
    · rw [key 2 0 cc (by decide) (by decide)]; exact ⟨_, _, rfl, Nat.succ_ne_zero _, Rp⟩
    · rw [key 2 1 cc (by decide) (by decide)]; exact ⟨_, _, rfl, ht3, RV⟩
    · rw [key 2 2 cc (by decide) (by decide)]; exact ⟨_, _, rfl, Nat.succ_ne_zero _, Rt⟩
  · refine newT (by simp) ?_
    intro T hT' nT kT hT
    walk_at "mine go"
    rename_i cc
    refine Done.of (St.keeps (by assumption) kT) (stays_refl _) ⟨T, _, _, _, rfl, none_less (Rd.keep (St.toRd (by assumption))) nT, hT, ?_, ?_, ?_⟩
    · rw [key 3 0 cc (by decide) (by decide)]; exact ⟨_, _, rfl, Nat.succ_ne_zero _, Rp⟩
    · rw [key 3 1 cc (by decide) (by decide)]; exact ⟨_, _, rfl, Nat.succ_ne_zero _, Rq'⟩
    · rw [key 3 2 cc (by decide) (by decide)]; exact ⟨_, _, rfl, ht3, RV⟩
  · refine newT (by simp) ?_
    intro T hT' nT kT hT
    walk_at "mine go"
    rename_i cc
    refine Done.of (St.keeps (by assumption) kT) (stays_refl _) ⟨T, _, _, _, rfl, none_less (Rd.keep (St.toRd (by assumption))) nT, hT, ?_, ?_, ?_⟩
    · rw [key 4 0 cc (by decide) (by decide)]; exact ⟨_, _, rfl, Nat.succ_ne_zero _, Rt⟩
    · rw [key 4 1 cc (by decide) (by decide)]; exact ⟨_, _, rfl, Nat.succ_ne_zero _, Rp⟩
    · rw [key 4 2 cc (by decide) (by decide)]; exact ⟨_, _, rfl, ht3, RV⟩
  · refine newT (by simp) ?_
    intro T hT' nT kT hT
    walk_at "mine go"
    rename_i cc
    refine Done.of (St.keeps (by assumption) kT) (stays_refl _) ⟨T, _, _, _, rfl, none_less (Rd.keep (St.toRd (by assumption))) nT, hT, ?_, ?_, ?_⟩
    · rw [key 5 0 cc (by decide) (by decide)]; exact ⟨_, _, rfl, ht3, RV⟩
    · rw [key 5 1 cc (by decide) (by decide)]; exact ⟨_, _, rfl, Nat.succ_ne_zero _, Rp⟩
    · rw [key 5 2 cc (by decide) (by decide)]; exact ⟨_, _, rfl, Nat.succ_ne_zero _, Rq'⟩
  · exfalso; omega
end
section
theorem not3 : ∀ k : Nat, ¬ (2 : Int) ^ k % 3 = 0
  | 0 => by decide
  | k + 1 => by have := not3 k; rw [Int.pow_succ]; omega
theorem Prm.not3 {n share value : Int} (p : Prm n share value) : ¬ n % 3 = 0 := by
  obtain ⟨k, _, _, rfl⟩ := p.p2; exact Mine.not3 k
def lev (n share value hi : Int) : Int := value * (1024 * n - share * (n - hi))
theorem lev_bd {n share value hi : Int} (p : Prm n share value) (h0 : 0 ≤ hi) (h1 : hi ≤ n) : lev n share value 0 ≤ lev n share value hi ∧ lev n share value hi ≤ lev n share value n := by
  have h3 := p.s1
  have h5 := p.v1
  unfold lev
  have e1 : share * (n - hi) ≤ share * (n - 0) := Int.mul_le_mul_of_nonneg_left (by omega) (by omega)
  have e2 : share * (n - n) ≤ share * (n - hi) := Int.mul_le_mul_of_nonneg_left (by omega) (by omega)
  exact ⟨Int.mul_le_mul_of_nonneg_left (by omega) (by omega), Int.mul_le_mul_of_nonneg_left (by omega) (by omega)⟩
theorem hiAt_bd {e r n : Int} (h0 : 0 ≤ r) (h1 : r < n) : 0 ≤ hiAt e r n ∧ hiAt e r n ≤ n := by
  unfold hiAt; (repeat' split) <;> omega
/-- the three levels at a hue of m parts, and how the hue is told from them -/
theorem hue_facts {n share value m : Int} (p : Prm n share value) (m0 : 0 ≤ m) (m1 : m < n) : ∃ h0 h1 h2 : Int,
    (colI m 0 n share value = lev n share value h0 ∧ colI m 1 n share value = lev n share value h1 ∧ colI m 2 n share value = lev n share value h2) ∧
    (0 ≤ h0 ∧ h0 ≤ n) ∧ (0 ≤ h1 ∧ h1 ≤ n) ∧ (0 ≤ h2 ∧ h2 ≤ n) ∧ (h0 = n ∨ h1 = n ∨ h2 = n) ∧ (h0 = 0 ∨ h1 = 0 ∨ h2 = 0) ∧
    (h0 = n → h1 - h2 = 6 * m ∨ h1 - h2 = 6 * m - 6 * n) ∧ (h0 ≠ n → h1 = n → 2 * n + h2 - h0 = 6 * m) ∧ (h0 ≠ n → h1 ≠ n → 4 * n + h0 - h1 = 6 * m) := by
  have hn := p.n16
  have h3 := p.not3
  obtain ⟨c, r, hc0, hc1, hr0, hr1, h⟩ : ∃ c r, 0 ≤ c ∧ c < 6 ∧ 0 ≤ r ∧ r < n ∧ 6 * m = c * n + r := by
    refine ⟨6 * m / n, 6 * m % n, Int.ediv_nonneg (by omega) (by omega), Int.ediv_lt_of_lt_mul (by omega) (by omega), Int.emod_nonneg _ (by omega), Int.emod_lt_of_pos _ (by omega), ?_⟩
    rw [Int.mul_comm (6 * m / n) n]
    exact (Int.mul_ediv_add_emod _ _).symm
  have key : ∀ j : Int, 0 ≤ j → j < 3 → colI m j n share value = lev n share value (hiAt ((c - 2 * j) % 6) r n) := by
    intro j hj0 hj1
    unfold colI partI lev
    rw [high_case (u := 0) (c := c) (r := r) (by omega) hr0 hr1 hc0 hc1 hj0 hj1 (by rw [h]; grind)]
  refine ⟨_, _, _, ⟨key 0 (by decide) (by decide), key 1 (by decide) (by decide), key 2 (by decide) (by decide)⟩, hiAt_bd hr0 hr1, hiAt_bd hr0 hr1, hiAt_bd hr0 hr1, ?_⟩
  have hC : c = 0 ∨ c = 1 ∨ c = 2 ∨ c = 3 ∨ c = 4 ∨ c = 5 := by omega
  rcases hC with rfl | rfl | rfl | rfl | rfl | rfl
  all_goals (simp [hiAt]; omega)
end
section
theorem rep_two : Rep 4611686018427387904 2 1 := by
  have := rep_ofInt (n := 2) (by decide)
  have e : Float64.ofInt 2 = 4611686018427387904 := by decide +kernel
  rwa [e] at this
theorem rep_four : Rep 4616189618054758400 4 1 := by
  have := rep_ofInt (n := 4) (by decide)
  have e : Float64.ofInt 4 = 4616189618054758400 := by decide +kernel
  rwa [e] at this
def Hsv (h₀ h' : Heap) (v : Value) (n m share value : Int) : Prop := ∃ T v0 v1 v2, v = .ref T ∧ h₀.get? T = none ∧ IsTup h' T [v0, v1, v2].toArray ∧ IsF n v0 m ∧ IsF 1024 v1 share ∧ IsF 1024 v2 value
theorem rgb_spec {w : World} {A : Around} {s : Shared} {k : Nat} (G : Gd w s.heap) (a : AOk A (k + 1)) (ht : 1 ≤ s.toks) {n share value : Int} (p : Prm n share value) (m : Int) (hm0 : 0 ≤ m) (hm1 : m < n) {rx gx bx : UInt64} {t1 t2 t3 : Tok} (ht1 : t1 ≠ 0) (ht2 : t2 ≠ 0) (ht3 : t3 ≠ 0)
   (R0 : Rep rx (colI m 0 n share value) (1048576 * n)) (R1 : Rep gx (colI m 1 n share value) (1048576 * n)) (R2 : Rep bx (colI m 2 n share value) (1048576 * n)) :
   codeAny (model Pr w) A (.call (.ref 21) ⟨[.float rx t1, .float gx t2, .float bx t3], []⟩) (Ret s fun v h' => Hsv s.heap h' v n m share value) s := by
  walk_at "mine fill"
  refine' enter [("b", .float bx t3), ("g", .float gx t2), ("r", .float rx t1)] [] ?G ?a ?ht ?hK ?hcd ?hbody ?hbind ?hclo ?hkind ?hlb ?hcb ?h ?hco ?hgen ?hk
  walk_at "mine entered"
  clear a G ht
  intro A env h₁ tk hE ht a G S
  k_fold
  have n1 := p.n16
  have n2 := p.n18
  have s1 := p.s1
  have s2 := p.s2
  have v1 := p.v1
  have v2 := p.v2
  have pD := p.pD
  have D0 := pD.pos
  obtain ⟨h0, h1, h2, ⟨e0, e1, e2⟩, b0, b1, b2, hmax, hmin, hA, hB, hC⟩ := hue_facts p hm0 hm1
  rw [e0] at R0
  rw [e1] at R1
  rw [e2] at R2
  have l0 := lev_bd p b0.1 b0.2
  have l1 := lev_bd p b1.1 b1.2
  have l2 := lev_bd p b2.1 b2.2
  have emax : max (lev n share value h0) (max (lev n share value h1) (lev n share value h2)) = lev n share value n := by
    rcases hmax with rfl | rfl | rfl <;> omega
  have emin : min (lev n share value h0) (min (lev n share value h1) (lev n share value h2)) = lev n share value 0 := by
    rcases hmin with rfl | rfl | rfl <;> omega
  have bsn := mul_bd (a := share) (b := n) (x := 1024) (y := 262144) (by omega) s2 (by omega) n2
  have bvsn := mul_bd (a := value) (b := share * n) (x := 1024) (y := 268435456) (by omega) v2 (by omega) (by omega)
  have bsn1 : 1 * 1 ≤ share * n := Int.mul_le_mul s1 (by omega) (by omega) (by omega)
  have bvsn1 : 1 * 1 ≤ value * (share * n) := Int.mul_le_mul v1 (by omega) (by omega) (by omega)
  have bvn := mul_bd (a := value) (b := 1024 * n) (x := 1024) (y := 268435456) (by omega) v2 (by omega) (by omega)
  have bvn1 : 1 * 1 ≤ value * (1024 * n) := Int.mul_le_mul v1 (by omega) (by omega) (by omega)
  have eV : lev n share value n = value * (1024 * n) := by unfold lev; grind
  have eW : lev n share value n - lev n share value 0 = value * (share * n) := by unfold lev; grind
  have eL : ∀ h, lev n share value n - lev n share value h = value * (share * (n - h)) := by intro h; unfold lev; grind
  have inj : ∀ h, lev n share value h = lev n share value n ↔ h = n := by
    intro h
    constructor
    · intro g
      have q := eL h
      rw [g, Int.sub_self] at q
      rcases Int.mul_eq_zero.mp q.symm with g | g
      · omega
      · rcases Int.mul_eq_zero.mp g with g | g <;> omega
    · rintro rfl; rfl
  have bL : ∀ h, 0 ≤ h → h ≤ n → 0 ≤ value * (share * (n - h)) ∧ value * (share * (n - h)) ≤ 1024 * 268435456 := by
    intro h g0 g1
    have q := mul_bd (a := share) (b := n - h) (x := 1024) (y := 262144) (by omega) s2 (by omega) (by omega)
    exact mul_bd (a := value) (b := share * (n - h)) (x := 1024) (y := 268435456) (by omega) v2 (by omega) (by omega)
  walk_at "mine go"
  refine max3F a.hh (by walk_at "mine tok") D0 ht1 ht2 ht3 R0 R1 R2 ?_
  rw [emax]
  intro mx tm hh1 tk1 htk1 htm k1 RM
  have S1 := S.keeps k1
  walk_at "mine go"
  refine min3F a.hh (by walk_at "mine tok") D0 ht1 ht2 ht3 R0 R1 R2 ?_
  rw [emin]
  intro mn tn hh2 tk2 htk2 htn k2 Rm
  rename_i S2
  have S3 := S2.keeps k2
  have Rr : Rep (Float64.sub mx mn) (value * (share * n)) (1048576 * n) := by
    have := RM.sub Rm pD (by omega)
    rwa [eW] at this
  walk_at "mine go"
  · exfalso
    rename_i c
    rw [Rm.eq? RM D0] at c
    simp at c
    omega
  rename_i S4 c4
  clear c4
  refine divF share 1024 a.hh (by walk_at "mine tok") Rr RM D0 D0 (by rw [eV]; omega) p2_1024 (by omega) (by rw [eV]; grind) ?_
  intro sx ts tks htks hts Rs
  walk_at "mine go"
  refine divF (n - h0) n a.hh (by walk_at "mine tok") (RM.sub R0 pD (by have := bL h0 b0.1 b0.2; have := eL h0; omega)) Rr D0 D0 (by omega) p.pn (by omega) (by rw [eL]; grind) ?_
  intro rc trc tkrc htkrc htrc Rrc
  walk_at "mine go"
  refine divF (n - h1) n a.hh (by walk_at "mine tok") (RM.sub R1 pD (by have := bL h1 b1.1 b1.2; have := eL h1; omega)) Rr D0 D0 (by omega) p.pn (by omega) (by rw [eL]; grind) ?_
  intro gc tgc tkgc htkgc htgc Rgc
  walk_at "mine go"
  refine divF (n - h2) n a.hh (by walk_at "mine tok") (RM.sub R2 pD (by have := bL h2 b2.1 b2.2; have := eL h2; omega)) Rr D0 D0 (by omega) p.pn (by omega) (by rw [eL]; grind) ?_
  intro bc tbc tkbc htkbc htbc Rbc
  have RMv : Rep mx value 1024 := by
    rw [eV] at RM
    refine RM.to (by omega) ?_
    grind
  have R6n : Rep 4618441417868443648 6 1 := rep_six
  have R2n : Rep 4611686018427387904 (2 * n) n := by have := rep_two.scale n; rwa [Int.one_mul] at this
  have R4n : Rep 4616189618054758400 (4 * n) n := by have := rep_four.scale n; rwa [Int.one_mul] at this
  walk_at "mine go"
  · rename_i c _ _ _ _
    rw [R0.eq? RM D0] at c
    have c' := (inj h0).mp (by simpa using c)
    rcases hA c' with q | q
    · refine divF m n a.hh (by walk_at "mine tok") (Rbc.sub Rgc p.pn (by omega)) R6n (by omega) (by omega) (by omega) p.pn (by omega) (by rw [show n - h2 - (n - h1) = 6 * m by omega]; grind) ?_
      intro hq thq tkhq htkhq hthq RH
      walk_at "mine go"
      refine modF a.hh (by walk_at "mine tok") RH p.pn (by omega) ?_
      intro hv thv tkhv htkhv hthv RHv
      rw [show (m) % n = m from Int.emod_eq_of_lt hm0 hm1] at RHv
      walk_at "mine go"
      refine newT (by simp) ?_
      intro T hT' nT kT hT
      walk_at "mine go"
      exact Done.of (St.keeps (by assumption) kT) (stays_refl _) ⟨T, _, _, _, rfl, none_less (Rd.keep (St.toRd (by assumption))) nT, hT, ⟨_, _, rfl, hthv, RHv⟩, ⟨_, _, rfl, hts, Rs⟩, ⟨_, _, rfl, htm, RMv⟩⟩
    · refine divF (m - n) n a.hh (by walk_at "mine tok") (Rbc.sub Rgc p.pn (by omega)) R6n (by omega) (by omega) (by omega) p.pn (by omega) (by rw [show n - h2 - (n - h1) = 6 * m - 6 * n by omega]; grind) ?_
      intro hq thq tkhq htkhq hthq RH
      walk_at "mine go"
      refine modF a.hh (by walk_at "mine tok") RH p.pn (by omega) ?_
      intro hv thv tkhv htkhv hthv RHv
      rw [show (m - n) % n = m from by rw [Int.sub_emod_right]; exact Int.emod_eq_of_lt hm0 hm1] at RHv
      walk_at "mine go"
      refine newT (by simp) ?_
      intro T hT' nT kT hT
      walk_at "mine go"
      exact Done.of (St.keeps (by assumption) kT) (stays_refl _) ⟨T, _, _, _, rfl, none_less (Rd.keep (St.toRd (by assumption))) nT, hT, ⟨_, _, rfl, hthv, RHv⟩, ⟨_, _, rfl, hts, Rs⟩, ⟨_, _, rfl, htm, RMv⟩⟩
  · rename_i c d _ _ _ _
    rw [R0.eq? RM D0] at c
    rw [R1.eq? RM D0] at d
    have c' : h0 ≠ n := fun e => by have := (inj h0).mpr e; simp [this] at c
    have d' : h1 = n := (inj h1).mp (by simpa using d)
    have q := hB c' d'
    refine divF m n a.hh (by walk_at "mine tok") ((R2n.add Rrc p.pn (by omega)).sub Rbc p.pn (by omega)) R6n (by omega) (by omega) (by omega) p.pn (by omega) (by rw [show 2 * n + (n - h0) - (n - h2) = 6 * m by omega]; grind) ?_
    intro hq thq tkhq htkhq hthq RH
    walk_at "mine go"
    refine modF a.hh (by walk_at "mine tok") RH p.pn (by omega) ?_
    intro hv thv tkhv htkhv hthv RHv
    rw [show (m) % n = m from Int.emod_eq_of_lt hm0 hm1] at RHv
    walk_at "mine go"
    refine newT (by simp) ?_
    intro T hT' nT kT hT
    walk_at "mine go"
    exact Done.of (St.keeps (by assumption) kT) (stays_refl _) ⟨T, _, _, _, rfl, none_less (Rd.keep (St.toRd (by assumption))) nT, hT, ⟨_, _, rfl, hthv, RHv⟩, ⟨_, _, rfl, hts, Rs⟩, ⟨_, _, rfl, htm, RMv⟩⟩
  · rename_i c d _ _ _ _
    rw [R0.eq? RM D0] at c
    rw [R1.eq? RM D0] at d
    have c' : h0 ≠ n := fun e => by have := (inj h0).mpr e; simp [this] at c
    have d' : h1 ≠ n := fun e => by have := (inj h1).mpr e; simp [this] at d
    have q := hC c' d'
    refine divF m n a.hh (by walk_at "mine tok") ((R4n.add Rgc p.pn (by omega)).sub Rrc p.pn (by omega)) R6n (by omega) (by omega) (by omega) p.pn (by omega) (by rw [show 4 * n + (n - h1) - (n - h0) = 6 * m by omega]; grind) ?_
    intro hq thq tkhq htkhq hthq RH
    walk_at "mine go"
    refine modF a.hh (by walk_at "mine tok") RH p.pn (by omega) ?_
    intro hv thv tkhv htkhv hthv RHv
    rw [show (m) % n = m from Int.emod_eq_of_lt hm0 hm1] at RHv
    walk_at "mine go"
    refine newT (by simp) ?_
    intro T hT' nT kT hT
    walk_at "mine go"
    exact Done.of (St.keeps (by assumption) kT) (stays_refl _) ⟨T, _, _, _, rfl, none_less (Rd.keep (St.toRd (by assumption))) nT, hT, ⟨_, _, rfl, hthv, RHv⟩, ⟨_, _, rfl, hts, Rs⟩, ⟨_, _, rfl, htm, RMv⟩⟩
end
section
theorem srt_mono {f : Int → Int} (hf : ∀ a b, a ≤ b → f a ≤ f b) (as : List Int) : srt (as.map f) = (srt as).map f :=
  (srt_unique ((srt_perm as).map f) (List.pairwise_map.mpr ((srt_sorted as).imp fun h => hf _ _ h))).symm
theorem srt_anti {f : Int → Int} (hf : ∀ a b, a ≤ b → f b ≤ f a) (as : List Int) : srt (as.map f) = ((srt as).map f).reverse :=
  (srt_unique ((List.reverse_perm _).trans ((srt_perm as).map f)) (List.pairwise_reverse.mpr (List.pairwise_map.mpr ((srt_sorted as).imp fun h => hf _ _ h)))).symm
theorem getD_map {f : Int → Int} {as : List Int} {i : Nat} (h : i < as.length) : (as.map f).getD i 0 = f (as.getD i 0) := by simp [List.getD_eq_getElem?_getD, h]
theorem getD_rev {as : List Int} {i : Nat} (h : i < as.length) : as.reverse.getD i 0 = as.getD (as.length - 1 - i) 0 := by
  simp [List.getD_eq_getElem?_getD, List.getElem?_reverse h]
theorem medLo_mono {f : Int → Int} (hf : ∀ a b, a ≤ b → f a ≤ f b) {as : List Int} (h : 0 < as.length) : medLo (as.map f) = f (medLo as) := by
  unfold medLo; rw [srt_mono hf, List.length_map, getD_map (by rw [srt_length]; omega)]
theorem medHi_mono {f : Int → Int} (hf : ∀ a b, a ≤ b → f a ≤ f b) {as : List Int} (h : 0 < as.length) : medHi (as.map f) = f (medHi as) := by
  unfold medHi; rw [srt_mono hf, List.length_map, getD_map (by rw [srt_length]; omega)]
theorem medLo_anti {f : Int → Int} (hf : ∀ a b, a ≤ b → f b ≤ f a) {as : List Int} (h : 0 < as.length) : medLo (as.map f) = f (medHi as) := by
  unfold medLo medHi
  rw [srt_anti hf, List.length_map, getD_rev (by rw [List.length_map, srt_length]; omega), List.length_map, srt_length, getD_map (by rw [srt_length]; omega)]
  congr 2; omega
theorem medHi_anti {f : Int → Int} (hf : ∀ a b, a ≤ b → f b ≤ f a) {as : List Int} (h : 0 < as.length) : medHi (as.map f) = f (medLo as) := by
  unfold medLo medHi
  rw [srt_anti hf, List.length_map, getD_rev (by rw [List.length_map, srt_length]; omega), List.length_map, srt_length, getD_map (by rw [srt_length]; omega)]
  congr 2; omega
theorem medLo_mem {as : List Int} (h : 0 < as.length) : medLo as ∈ as := by
  have : medLo as ∈ srt as := by
    unfold medLo
    rw [List.getD_eq_getElem?_getD, List.getElem?_eq_getElem (by rw [srt_length]; omega)]
    exact List.getElem_mem _
  exact (srt_perm as).mem_iff.mp this
theorem medHi_mem {as : List Int} (h : 0 < as.length) : medHi as ∈ as := by
  have : medHi as ∈ srt as := by
    unfold medHi
    rw [List.getD_eq_getElem?_getD, List.getElem?_eq_getElem (by rw [srt_length]; omega)]
    exact List.getElem_mem _
  exact (srt_perm as).mem_iff.mp this
end
section
theorem way_bd {p j n : Int} (hn : 0 < n) : 0 ≤ wayI p j n ∧ wayI p j n ≤ 6 * n := by
  have h1 := Int.emod_nonneg (p - 2 * j * n) (show 6 * n ≠ 0 by omega)
  have h2 := Int.emod_lt_of_pos (p - 2 * j * n) (show 0 < 6 * n by omega)
  unfold wayI
  omega
theorem part_anti {n share value : Int} (p : Prm n share value) (a b : Int) (h : a ≤ b) : partI b n share value ≤ partI a n share value := by
  have h3 := p.s1
  have h5 := p.v1
  have e : highI b n ≤ highI a n := by unfold highI; omega
  unfold partI
  have e1 : share * (n - highI a n) ≤ share * (n - highI b n) := Int.mul_le_mul_of_nonneg_left (by omega) (by omega)
  exact Int.mul_le_mul_of_nonneg_left (by omega) (by omega)
theorem neF {x y : UInt64} {a b d : Int} (hx : Rep x a d) (hy : Rep y b d) (hd : 0 < d) (e : a = b) : (Float64.cmp x y != some Ordering.eq) = false := by
  subst e
  rw [bne, hx.eq? hy hd]; simp
/-- the colour that stands at y -/
def ColAt (g : Heap) (y : Value) (D c0 c1 c2 : Int) : Prop := ∃ T v0 v1 v2, y = .ref T ∧ IsTup g T [v0, v1, v2].toArray ∧ IsF D v0 c0 ∧ IsF D v1 c1 ∧ IsF D v2 c2
/-- what one turn of the row of colours makes -/
def ColF (D : Int) (c : Nat → Int → Int) (i : Nat) (y : Value) (fr : List (Addr × Obj)) : Prop :=
  ∃ T v0 v1 v2, ∃ o : Obj, y = .ref T ∧ fr = [(T, o)] ∧ o.cls = .type "tuple" ∧ (∃ k, o.data = .seq [v0, v1, v2].toArray k) ∧ IsF D v0 (c i 0) ∧ IsF D v1 (c i 1) ∧ IsF D v2 (c i 2)
theorem ColF.at {D : Int} {c : Nat → Int → Int} {i : Nat} {y : Value} {fr : List (Addr × Obj)} {g : Heap} (h : ColF D c i y fr) (hg : ∀ p ∈ fr, g.get? p.1 = some p.2) : ColAt g y D (c i 0) (c i 1) (c i 2) := by
  obtain ⟨T, v0, v1, v2, o, rfl, rfl, h1, h2, h3⟩ := h
  exact ⟨T, v0, v1, v2, rfl, ⟨o, hg _ (List.mem_cons_self ..), h1, h2⟩, h3⟩
theorem wheel_spec {w : World} {A : Around} {s : Shared} {k : Nat} (G : Gd w s.heap) (a : AOk A (k + 2)) (ht : 1 ≤ s.toks) {n share value : Int} (p : Prm n share value) {l : Addr} {vs : List Value} {row : List Int} {t1 t2 t3 : Tok}
    (hl : s.heap.IsList l vs.toArray) (hp : Paired IsI vs row) (hlen : 0 < vs.length ∧ vs.length < 64) (hrow : ∀ x ∈ row, 0 ≤ x ∧ x < 8 * n) :
   codeAny (model Pr w) A (.call (.ref 74) ⟨[.ref l, .int n t1, .int share t2, .int value t3], []⟩) (Ret s fun v _ => v = .bool true) s := by
  walk_at "mine fill"
  refine' enter [("row", .ref l)] [("value", .int value t3), ("share", .int share t2), ("n", .int n t1)] ?G ?a ?ht ?hK ?hcd ?hbody ?hbind ?hclo ?hkind ?hlb ?hcb ?h ?hco ?hgen ?hk
  walk_at "mine entered"
  clear a G ht
  intro A env h₁ tk hE ht a G S
  k_fold
  have n1 := p.n16
  have n2 := p.n18
  have s1 := p.s1
  have s2 := p.s2
  have v1 := p.v1
  have v2 := p.v2
  walk1
  refine' asgCompN S a.hh (by walk_at "mine tok") hl hlen.2 (ColF (1048576 * n) fun i j => colI (row.getD i 0) j n share value) [("value", s.heap.objs.size + 3), ("share", s.heap.objs.size + 2), ("n", s.heap.objs.size + 1)] ?hsw ?hclos ?hkind ?hcell ?hnames ?hs ?hcl ?hy ?hek (fun _ _ _ _ _ _ _ _ q => wpAny_pure q) ?hit ?helt ?fin
  walk_at "mine comp"
  case hit => intro Q' q; walk1; exact q
  case helt =>
    intro C g' s' mb i v hts hv k2 B
    have G' := G.keeps k2
    obtain ⟨num, hnum, t, rfl⟩ := paired_get hp i v hv
    have hn0 := hrow num (List.mem_of_getElem? hnum)
    refine wpAny_assign_Name (stB B hts (by walk_at "mine eq") (by walk_at "mine eq") fun h2 tk2 htk2 B2 hsb => ?_)
    clear B
    walk_at "mine go"
    refine divI num n a.hh (by walk_at "mine tok") (by omega) p.pn (by omega) rfl (by omega) ?_
    intro hx th tkh htkh hth Rh
    walk_at "mine go"
    refine divI share 1024 a.hh (by walk_at "mine tok") (by decide) p2_1024 (by omega) rfl (by omega) ?_
    intro sx tsx tksx htksx htsx Rs
    walk_at "mine go"
    refine divI value 1024 a.hh (by walk_at "mine tok") (by decide) p2_1024 (by omega) rfl (by omega) ?_
    intro vx tvx tkvx htkvx htvx Rv
    walk_at "mine go"
    refine' use (hsv_spec ?hG a (by walk_at "mine tok") p num hn0.1 hn0.2 htvx Rh Rs Rv) (by walk_at "mine tok") ?_
    case hG => exact G'.keeps B2.keep
    intro y h3 tk3 htk3 k3 hcol
    obtain ⟨T, w0, w1, w2, rfl, nT, ⟨o, ho, hc, hd⟩, c0, c1, c2⟩ := hcol
    have e : row.getD i 0 = num := by simp [List.getD_eq_getElem?_getD, hnum]
    refine ⟨h3, tk3, _, [(T, o)], rfl, B2.keeps k3, ⟨T, w0, w1, w2, o, rfl, rfl, hc, hd, by dsimp only; rw [e]; exact c0, by dsimp only; rw [e]; exact c1, by dsimp only; rw [e]; exact c2⟩, ?_⟩
    intro q hq
    rw [List.mem_singleton.mp hq]
    refine ⟨none_less B2.keep nT, ?_, ho⟩
    exact (notHere B2.toRd nT).1
  case fin =>
    intro g1 Dc h2 tk2 cols htk2 S1 kg1 hcl hitems _ _
    have hcols : Paired (fun y num => ColAt g1 y (1048576 * n) (colI num 0 n share value) (colI num 1 n share value) (colI num 2 n share value)) cols row := by
      refine paired_of_get (by rw [hitems.1, hp.length]) fun i y num hy hnum => ?_
      obtain ⟨fr, f1, f2⟩ := hitems.get hy
      have e : row.getD i 0 = num := by simp [List.getD_eq_getElem?_getD, hnum]
      have := f1.at f2
      rwa [e] at this
    have hclen : cols.length = vs.length := hitems.1
    clear S hitems
    have G1 := G.keeps kg1
    have hl1 := stays_list kg1 hl
    walk1
    refine forRange (g := g1) a.hh htk2 (k := 3) (by decide) [] (fun i m cm h => m "row" = some (.ref l) ∧ m "colours" = some (.ref Dc) ∧ cm "n" = some (.int n t1) ∧ cm "share" = some (.int share t2) ∧ cm "value" = some (.int value t3)) (fun _ _ _ _ _ _ _ _ j => j) (by simp) S1 ?J0 ?hit (fun _ => rfl) (fun _ _ => rfl) ?turn ?fin
    case J0 => intro h k; exact ⟨by with_unfolding_all rfl, by with_unfolding_all rfl, by with_unfolding_all rfl, by with_unfolding_all rfl, by with_unfolding_all rfl⟩
    case hit =>
      intro Q' q
      walk_at "mine go"
      refine call_range_1 ?_
      exact q _ _ _ _ _ _ (by omega) (fun b o e => Heap.get?_push_of_some _ e) (fresh1 _ (Nat.le_refl _)) (IsRange.new _ 0 3 1 _ _ _)
    case fin =>
      intro m cm h tk htk S j
      walk_at "mine go"
      exact Done.of S kg1 rfl
    case turn =>
      intro j tj m cm g2 s' hts' hj kg2 _ S2 hJ
      obtain ⟨j1, j2, j3, j4, j5⟩ := hJ
      have G2 := G1.keeps kg2
      have hl2 := stays_list kg2 hl1
      have hcl2 := stays_list kg2 hcl
      clear S1
      refine wpAny_assign_Name ?_
      walk1
      rename_i h3 tk3 ht3 S3
      clear S2
      walk1
      refine' asgCompN S3 a.hh (by walk_at "mine tok") hcl2 (by omega) (fun i y fr => fr = [] ∧ IsF (1048576 * n) y (colI (row.getD i 0) j n share value)) [("j", s.heap.objs.size + 4)] ?hsw ?hclos ?hkind ?hcell ?hnames ?hs ?hcl ?hy ?hek (fun _ _ _ _ _ _ _ _ q => wpAny_pure q) ?hit ?helt ?fin
      walk_at "mine comp"
      case hit => intro Q' q; walk1; exact q
      case helt =>
        intro C g' s'' mb i v hts hv k3 B
        obtain ⟨num, hnum, T, w0, w1, w2, rfl, hT, c0, c1, c2⟩ := paired_get hcols i v hv
        have hT3 : IsTup g' T _ := IsTup.keeps (IsTup.keeps hT kg2) k3
        refine wpAny_assign_Name (stB B hts (by walk_at "mine eq") (by walk_at "mine eq") fun h4 tk4 htk4 B4 hsb => ?_)
        clear B
        walk_at "mine go"
        refine itemT (IsTup.keeps hT3 B4.keep) (by omega) (by simp; omega) (by simp) fun v hv => ?_
        have e : row.getD i 0 = num := by simp [List.getD_eq_getElem?_getD, hnum]
        refine ⟨h4, _, _, [], rfl, B4, ⟨rfl, ?_⟩, fun q hq => (nomatch hq)⟩
        rw [e]
        have hj' : j = 0 ∨ j = 1 ∨ j = 2 := by omega
        rcases hj' with rfl | rfl | rfl
        · cases hv; exact c0
        · cases hv; exact c1
        · cases hv; exact c2
      case fin =>
        intro g4 Dp h4 tk4 parts htk4 S4 kg4 hpl hpi _ _
        have hparts : Paired (IsF (1048576 * n)) parts (row.map fun num => partI (wayI (6 * num) j n) n share value) := by
          refine paired_of_get (by rw [hpi.1, List.length_map, hclen, hp.length]) fun i y b hy hb => ?_
          obtain ⟨fr, ⟨rfl, f1⟩, f2⟩ := hpi.get hy
          rw [List.getElem?_map] at hb
          obtain ⟨num, hnum, rfl⟩ := Option.map_eq_some_iff.mp hb
          have e : row.getD i 0 = num := by simp [List.getD_eq_getElem?_getD, hnum]
          rw [e] at f1
          exact f1
        have hplen : parts.length = vs.length := by rw [hpi.1, hclen]
        have G4 := G2.keeps kg4
        have hl4 := stays_list kg4 hl2
        clear S3 hpi
        walk1
        refine' asgCompN S4 a.hh (by walk_at "mine tok") hl4 hlen.2 (fun i y fr => fr = [] ∧ IsI y (wayI (6 * row.getD i 0) j n)) [("n", s.heap.objs.size + 1), ("j", s.heap.objs.size + 4)] ?hsw ?hclos ?hkind ?hcell ?hnames ?hs ?hcl ?hy ?hek (fun _ _ _ _ _ _ _ _ q => wpAny_pure q) ?hit ?helt ?fin
        walk_at "mine comp"
        case hit => intro Q' q; walk1; exact q
        case helt =>
          intro C g' s'' mb i v hts hv k3 B
          have G' := G4.keeps k3
          obtain ⟨num, hnum, t, rfl⟩ := paired_get hp i v hv
          have hn0 := hrow num (List.mem_of_getElem? hnum)
          refine wpAny_assign_Name (stB B hts (by walk_at "mine eq") (by walk_at "mine eq") fun h5 tk5 htk5 B5 hsb => ?_)
          clear B
          walk_at "mine go"
          refine' use (way_spec ?hG a (by walk_at "mine tok") (6 * num) j n _ _ _ (by omega) (by omega) (by omega) (by omega)) (by walk_at "mine tok") ?_
          case hG => exact G'.keeps B5.keep
          intro y h6 tk6 htk6 k6 hy
          have e : row.getD i 0 = num := by simp [List.getD_eq_getElem?_getD, hnum]
          exact ⟨h6, tk6, _, [], rfl, B5.keeps k6, ⟨rfl, by rw [e]; exact hy⟩, fun q hq => (nomatch hq)⟩
        case fin =>
          intro g5 Dw h5 tk5 ways htk5 S5 kg5 hwl hwi _ _
          have hways : Paired IsI ways (row.map fun num => wayI (6 * num) j n) := by
            refine paired_of_get (by rw [hwi.1, List.length_map, hp.length]) fun i y b hy hb => ?_
            obtain ⟨fr, ⟨rfl, f1⟩, f2⟩ := hwi.get hy
            rw [List.getElem?_map] at hb
            obtain ⟨num, hnum, rfl⟩ := Option.map_eq_some_iff.mp hb
            have e : row.getD i 0 = num := by simp [List.getD_eq_getElem?_getD, hnum]
            rw [e] at f1
            exact f1
          have hwlen : ways.length = vs.length := hwi.1
          have G5 := G4.keeps kg5
          have hpl5 := stays_list kg5 hpl
          clear S4 hwi
          walk_at "mine go"
          have D0 := p.pD.pos
          have hr0 : 0 < row.length := by rw [← hp.length]; exact hlen.1
          have wbd : ∀ x ∈ (row.map fun num => wayI (6 * num) j n), 0 ≤ x ∧ x ≤ 6 * n := by
            intro x hx
            obtain ⟨num, _, rfl⟩ := List.mem_map.mp hx
            exact way_bd (by omega)
          have eLo : medLo (row.map fun num => partI (wayI (6 * num) j n) n share value) = partI (medHi (row.map fun num => wayI (6 * num) j n)) n share value := by
            rw [show (row.map fun num => partI (wayI (6 * num) j n) n share value) = (row.map fun num => wayI (6 * num) j n).map (fun x => partI x n share value) by rw [List.map_map]; rfl]
            exact medLo_anti (part_anti p) (by rw [List.length_map]; exact hr0)
          have eHi : medHi (row.map fun num => partI (wayI (6 * num) j n) n share value) = partI (medLo (row.map fun num => wayI (6 * num) j n)) n share value := by
            rw [show (row.map fun num => partI (wayI (6 * num) j n) n share value) = (row.map fun num => wayI (6 * num) j n).map (fun x => partI x n share value) by rw [List.map_map]; rfl]
            exact medHi_anti (part_anti p) (by rw [List.length_map]; exact hr0)
          have wHi := wbd _ (medHi_mem (by rw [List.length_map]; exact hr0))
          have wLo := wbd _ (medLo_mem (by rw [List.length_map]; exact hr0))
          refine' use (medLo_spec (sorts_float D0) ?hG a (by walk_at "mine tok") ?hl hparts (by omega) (by omega)) (by walk_at "mine tok") ?_
          case hG => exact G5.keeps S5.keep
          case hl => exact stays_list S5.keep hpl5
          intro y h6 tk6 htk6 k6 hy
          obtain ⟨x1, tx1, rfl, htx1, R1⟩ := hy
          have S6 := S5.keeps k6
          walk_at "mine go"
          refine' use (medHi_spec sorts_int ?hG a (by walk_at "mine tok") ?hl hways (by omega) (by omega)) (by walk_at "mine tok") ?_
          case hG => exact G5.keeps S6.keep
          case hl => exact stays_list S6.keep hwl
          intro y h7 tk7 htk7 k7 hy
          obtain ⟨tx2, rfl⟩ := hy
          have S7 := S6.keeps k7
          walk_at "mine go"
          refine' use (part_spec ?hG a (by walk_at "mine tok") _ n share value _ _ _ _ p (by omega)) (by walk_at "mine tok") ?_
          case hG => exact G5.keeps S7.keep
          intro y h8 tk8 htk8 k8 hy
          obtain ⟨x3, tx3, rfl, htx3, R3⟩ := hy
          have S8 := S7.keeps k8
          walk_at "mine go"
          · exfalso
            rename_i c
            rw [neF R1 R3 D0 eLo] at c
            cases c
          rename_i c8
          clear c8
          refine' use (medHi_spec (sorts_float D0) ?hG a (by walk_at "mine tok") ?hl hparts (by omega) (by omega)) (by walk_at "mine tok") ?_
          case hG => exact G5.keeps S8.keep
          case hl => exact stays_list S8.keep hpl5
          intro y h9 tk9 htk9 k9 hy
          obtain ⟨x4, tx4, rfl, htx4, R4⟩ := hy
          have S9 := S8.keeps k9
          walk_at "mine go"
          refine' use (medLo_spec sorts_int ?hG a (by walk_at "mine tok") ?hl hways (by omega) (by omega)) (by walk_at "mine tok") ?_
          case hG => exact G5.keeps S9.keep
          case hl => exact stays_list S9.keep hwl
          intro y h10 tk10 htk10 k10 hy
          obtain ⟨tx5, rfl⟩ := hy
          have S10 := S9.keeps k10
          walk_at "mine go"
          refine' use (part_spec ?hG a (by walk_at "mine tok") _ n share value _ _ _ _ p (by omega)) (by walk_at "mine tok") ?_
          case hG => exact G5.keeps S10.keep
          intro y h11 tk11 htk11 k11 hy
          obtain ⟨x6, tx6, rfl, htx6, R6⟩ := hy
          have S11 := S10.keeps k11
          walk_at "mine go"
          · exfalso
            rename_i c
            rw [neF R4 R6 D0 eHi] at c
            cases c
          exact Turn.of (S11.less (stays_trans kg4 kg5)) ⟨by with_unfolding_all exact j1, by with_unfolding_all exact j2, by with_unfolding_all exact j3, by with_unfolding_all exact j4, by with_unfolding_all exact j5⟩
end
section
section
local macro_rules | `(tactic| walk_at "storeName") => `(tactic| (refine' stL' ?S ?ht ?hx ?hk ?_; (case hx => walk_at "mine env"); (case S => assumption); (case ht => walk_at "mine tok"); (case hk => walk_at "mine env"); intro h' tk' ht' S' hs'))
def placeI (num corner n : Int) : Int := if (6 * num - corner * n) % (6 * n) ≤ 3 * n then (6 * num - corner * n) % (6 * n) else (6 * num - corner * n) % (6 * n) - 3 * n
theorem place_bd {num corner n : Int} (hn : 0 < n) : 0 ≤ placeI num corner n ∧ placeI num corner n ≤ 3 * n := by
  have h1 := Int.emod_nonneg (6 * num - corner * n) (show 6 * n ≠ 0 by omega)
  have h2 := Int.emod_lt_of_pos (6 * num - corner * n) (show 0 < 6 * n by omega)
  unfold placeI
  split <;> omega
theorem paired_snoc_take {ys : List Value} {row : List Int} {f : Int → Int} {i : Nat} {num : Int} {v : Value} (h : Paired IsI ys ((row.take i).map f)) (hn : row[i]? = some num) (hv : IsI v (f num)) : Paired IsI (ys ++ [v]) ((row.take (i + 1)).map f) := by
  have e : row.take (i + 1) = row.take i ++ [num] := by
    rw [List.take_add_one, hn]; rfl
  rw [e, List.map_append]
  exact h.snoc hv
theorem plain_snoc {h : Heap} {D : Addr} {ys : List Value} {v : Value} (x : h.PlainList D (ys.toArray.push v)) : h.PlainList D (ys ++ [v]).toArray := by
  rw [show (ys ++ [v]).toArray = ys.toArray.push v by simp]; exact x
theorem places_spec {w : World} {A : Around} {s : Shared} {k : Nat} (G : Gd w s.heap) (a : AOk A (k + 1)) (ht : 1 ≤ s.toks) {n share value : Int} (p : Prm n share value) {l : Addr} {vs : List Value} {row : List Int} {corner : Int} {t1 t2 : Tok}
    (hl : s.heap.IsList l vs.toArray) (hp : Paired IsI vs row) (hlen : 0 < vs.length ∧ vs.length < 64) (hrow : ∀ x ∈ row, 0 ≤ x ∧ x < 8 * n) (hc : 0 ≤ corner ∧ corner < 6) :
   codeAny (model Pr w) A (.call (.ref 81) ⟨[.ref l, .int corner t1, .int n t2], []⟩) (Ret s fun v h' => ∃ D vs', v = .ref D ∧ s.heap.get? D = none ∧ h'.IsList D (List.toArray vs') ∧ Paired IsI vs' (row.map fun x => placeI x corner n)) s := by
  walk_at "mine fill"
  refine' enter [("n", .int n t2), ("corner", .int corner t1), ("row", .ref l)] [] ?G ?a ?ht ?hK ?hcd ?hbody ?hbind ?hclo ?hkind ?hlb ?hcb ?h ?hco ?hgen ?hk
  walk_at "mine entered"
  clear a G ht
  intro A env h₁ tk hE ht a G S
  k_fold
  have n1 := p.n16
  have n2 := p.n18
  walk_at "mine go"
  refine newLP (by decide) ?_
  intro D h2 nD k2 hD
  have S2 := S.keeps k2
  have nD' := notHere S.toRd nD
  have gD : s.heap.get? D = none := none_less S.keep nD
  clear S
  refine stL' S2 (by walk_at "mine tok") (by walk_at "mine eq") (by walk_at "mine eq") ?_
  intro h3 tk3 ht3 S3 hs3
  have hD3 : h3.PlainList D #[] := hD.at fun o e => (hs3.2 _ nD'.1).trans e
  clear S2
  walk1
  refine forList (g := s.heap) a.hh ht3 hl [D] (fun i m cm h => m "places" = some (.ref D) ∧ m "n" = some (.int n t2) ∧ m "corner" = some (.int corner t1) ∧ ∃ ys, h.PlainList D (List.toArray ys) ∧ Paired IsI ys ((row.take i).map fun x => placeI x corner n)) ?hJ ?hex S3 ?J0 ?hit (fun _ => rfl) (fun _ _ => rfl) ?turn ?fin
  case hJ =>
    intro I i m cm h h' nI kk ⟨j1, j2, j3, ys, j4, j5⟩
    refine ⟨j1, j2, j3, ys, j4.at fun o e => kk _ o ?_ e, j5⟩
    rintro rfl
    obtain ⟨c, hc⟩ := hD3
    rw [nI] at hc; cases hc
  case hex =>
    intro b hb
    rw [List.mem_singleton.mp hb]
    exact ⟨gD, by obtain ⟨c, hc⟩ := hD3; show (h3.get? D).isSome = true; rw [hc]; rfl⟩
  case J0 =>
    intro h kk
    refine ⟨by with_unfolding_all rfl, by with_unfolding_all rfl, by with_unfolding_all rfl, [], hD3.at fun o e => kk _ _ e, ?_⟩
    simpa using Paired.nil
  case hit => intro Q' q; walk1; exact q
  case fin =>
    intro m cm h tk htk S ⟨j1, j2, j3, ys, j4, j5⟩
    walk_at "mine go"
    refine Done.of S (stays_refl _) ⟨D, ys, rfl, gD, j4.isList, ?_⟩
    rwa [List.take_of_length_le (by rw [hp.length]; exact Nat.le_refl _)] at j5
  case turn =>
    intro i v m cm g' s' hts hv kg hx' S' ⟨j1, j2, j3, ys, j4, j5⟩
    have G' := G.keeps kg
    obtain ⟨num, hnum, t, rfl⟩ := paired_get hp i v hv
    have hn0 := hrow num (List.mem_of_getElem? hnum)
    clear S3
    refine wpAny_assign_Name ?_
    refine stL' S' hts (by walk_at "mine eq") (by walk_at "mine eq") ?_
    intro h4 tk4 ht4 S4 hs4
    have j44 : h4.PlainList D (List.toArray ys) := j4.at fun o e => (hs4.2 _ nD'.1).trans e
    clear S' j4
    walk_at "mine go"
    rename_i h5 tk5 ht5 S5 hs5
    obtain ⟨c5, hc5⟩ : h5.PlainList D (List.toArray ys) := j44.at fun o e => (hs5.2 _ nD'.1).trans e
    have hys : ys.length ≤ 64 := by have := j5.length; rw [List.length_map, List.length_take] at this; have := hp.length; omega
    have gD' : g'.get? D = none := hx' D (by simp)
    refine PySem.Calls.getMethod_list_append hc5 rfl rfl ?_
    have hfm : (6 * num - corner * n).fmod (6 * n) = (6 * num - corner * n) % (6 * n) := Int.fmod_eq_emod_of_nonneg _ (by omega)
    walk_at "mine go"
    · rename_i c
      refine wpAny_list_append_plain (hsz := by rw [List.size_toArray, sizeLine_eq]; omega) ⟨c5, hc5⟩ fun h6 hl6 hs6 => ?_
      walk_at "mine go"
      have S6 := S5.sameBut hs6 nD'.1 nD'.2 gD'
      refine Turn.of S6 ⟨by with_unfolding_all exact j1, by with_unfolding_all exact j2, by with_unfolding_all exact j3, ys ++ [_], plain_snoc hl6, paired_snoc_take j5 hnum ?_⟩
      have e : placeI num corner n = (6 * num - corner * n).fmod (6 * n) := by unfold placeI; rw [← hfm, if_pos c]
      rw [e]
      exact ⟨_, rfl⟩
    · rename_i c
      refine wpAny_list_append_plain (hsz := by rw [List.size_toArray, sizeLine_eq]; omega) ⟨c5, hc5⟩ fun h6 hl6 hs6 => ?_
      walk_at "mine go"
      have S6 := S5.sameBut hs6 nD'.1 nD'.2 gD'
      refine Turn.of S6 ⟨by with_unfolding_all exact j1, by with_unfolding_all exact j2, by with_unfolding_all exact j3, ys ++ [_], plain_snoc hl6, paired_snoc_take j5 hnum ?_⟩
      have e : placeI num corner n = (6 * num - corner * n).fmod (6 * n) - 3 * n := by unfold placeI; rw [← hfm, if_neg c]
      rw [e]
      exact ⟨_, rfl⟩
end
end
section
theorem stC' {M : Model} {A : Around} {E : Value → Shared → Prop} {s : Shared} {env : Env} {m cm : Str → Option Value} {g : Heap} {x : Str} {v : Value} {c : Addr} {Q : Unit → Shared → Prop} (S : St env m cm g s.heap) (ht : 1 ≤ s.toks) (hx : env.kindOf x = some .cell) (hk : env.scope.kind = .function) (hc : env.cells.lookup x = some c)
    (h : ∀ h' tk, 1 ≤ tk → St env m (fun y => if y = x then some v else cm y) g h' → Heap.SameBut c s.heap h' → Q () { s with heap := h', toks := tk }) : wpAny M A (storeName env x v) Q E s := by
  have hcl := S.cls x c hc
  refine wpAny_storeName_cell hk hx hc (S.cell x c hc) fun h' hc' hs' => h h' s.toks ht ⟨⟨S.ns.sameBut hs' (Ne.symm hcl.2), fun k c' hk' => ?_, fun b o e => ?_⟩, S.loc, S.cls, S.apart⟩ hs'
  · by_cases hkn : k = x
    · subst hkn
      rw [hc] at hk'; cases hk'
      simpa using hc'
    · rw [if_neg hkn]
      exact (S.cell k c' hk').sameBut hs' fun e => hkn (name_of_addr S.apart (mem_of_lookup hk') (e ▸ mem_of_lookup hc))
  · exact (hs'.2 b (fun q => by rw [q, hcl.1] at e; cases e)).trans (S.keep b o e)
/-- the middle of a column: lo: the lower of those that rise, the higher of those that fall -/
def midI (lo : Bool) (corner : Int) (xs : List Int) (c : Int → Int → Int) (j : Nat) : Int :=
  if (corner - 2 * (j : Int)) % 6 = 5 ∨ (corner - 2 * (j : Int)) % 6 = 0 ∨ (corner - 2 * (j : Int)) % 6 = 1 then (if lo then medHi (xs.map fun x => c x j) else medLo (xs.map fun x => c x j)) else (if lo then medLo (xs.map fun x => c x j) else medHi (xs.map fun x => c x j))
theorem middle_lo {w : World} {A : Around} {s : Shared} {k : Nat} (G : Gd w s.heap) (a : AOk A (k + 2)) (ht : 1 ≤ s.toks) {Dn : Int} (D0 : 0 < Dn) {Dc : Addr} {cols : List Value} {xs : List Int} {c : Int → Int → Int} {corner : Int} {tc : Tok} (hc : 0 ≤ corner ∧ corner < 6)
    (hcl : s.heap.IsList Dc cols.toArray) (hcols : Paired (fun y x => ColAt s.heap y Dn (c x 0) (c x 1) (c x 2)) cols xs) (hlen : 0 < cols.length ∧ cols.length < 64) :
   codeAny (model Pr w) A (.call (.ref 93) ⟨[.ref Dc, .int corner tc, .ref 48, .ref 55], []⟩) (Ret s fun v h' => ∃ M w0 w1 w2, v = .ref M ∧ s.heap.get? M = none ∧ h'.IsList M [w0, w1, w2].toArray ∧
      IsF Dn w0 (midI true corner xs c 0) ∧ IsF Dn w1 (midI true corner xs c 1) ∧ IsF Dn w2 (midI true corner xs c 2)) s := by
  walk_at "mine fill"
  refine' enter [("falling", .ref 55), ("rising", .ref 48), ("corner", .int corner tc), ("colours", .ref Dc)] [] ?G ?a ?ht ?hK ?hcd ?hbody ?hbind ?hclo ?hkind ?hlb ?hcb ?h ?hco ?hgen ?hk
  walk_at "mine entered"
  clear a G ht
  intro A env h₁ tk hE ht a G S
  k_fold
  walk_at "mine go"
  refine newLP (by decide) ?_
  intro D h2 nD k2 hD
  have S2 := S.keeps k2
  have nD' := notHere S.toRd nD
  have gD : s.heap.get? D = none := none_less S.keep nD
  clear S
  refine stL' S2 (by walk_at "mine tok") (by walk_at "mine eq") (by walk_at "mine eq") ?_
  intro h3 tk3 ht3 S3 hs3
  have hD3 : h3.PlainList D #[] := hD.at fun o e => (hs3.2 _ nD'.1).trans e
  clear S2
  walk1
  refine forRange (g := s.heap) a.hh ht3 (k := 3) (by decide) [D] (fun i m cm h => m "middle" = some (.ref D) ∧ m "colours" = some (.ref Dc) ∧ m "corner" = some (.int corner tc) ∧ m "rising" = some (.ref 48) ∧ m "falling" = some (.ref 55) ∧
      ∃ ys : List Value, h.PlainList D ys.toArray ∧ ys.length = i ∧ ∀ (k : Nat) y, ys[k]? = some y → IsF Dn y (midI true corner xs c k)) ?hJ ?hex S3 ?J0 ?hit (fun _ => rfl) (fun _ _ => rfl) ?turn ?fin
  case hJ =>
    intro I i m cm h h' nI kk ⟨j1, j2, j3, j4, j5, ys, j6, j7⟩
    refine ⟨j1, j2, j3, j4, j5, ys, j6.at fun o e => kk _ o ?_ e, j7⟩
    rintro rfl
    obtain ⟨cc, hcc⟩ := hD3
    rw [nI] at hcc; cases hcc
  case hex =>
    intro b hb
    rw [List.mem_singleton.mp hb]
    exact ⟨gD, by obtain ⟨cc, hcc⟩ := hD3; show (h3.get? D).isSome = true; rw [hcc]; rfl⟩
  case J0 =>
    intro h kk
    exact ⟨by with_unfolding_all rfl, by with_unfolding_all rfl, by with_unfolding_all rfl, by with_unfolding_all rfl, by with_unfolding_all rfl, [], hD3.at fun o e => kk _ _ e, rfl, fun k y hy => by simp at hy⟩
  case hit =>
    intro Q' q
    walk_at "mine go"
    refine call_range_1 ?_
    exact q _ _ _ _ _ _ (by omega) (fun b o e => Heap.get?_push_of_some _ e) (fresh1 _ (Nat.le_refl _)) (IsRange.new _ 0 3 1 _ _ _)
  case fin =>
    intro m cm h tk htk S ⟨j1, j2, j3, j4, j5, ys, j6, j7, j8⟩
    walk_at "mine go"
    match ys, j6, j7, j8 with
    | [w0, w1, w2], j6, _, j8 => exact Done.of S (stays_refl _) ⟨D, w0, w1, w2, rfl, gD, j6.isList, j8 0 w0 rfl, j8 1 w1 rfl, j8 2 w2 rfl⟩
  case turn =>
    intro j tj m cm g2 s' hts hj kg2 hx2 S2 ⟨j1, j2, j3, j4, j5, ys, j6, j7, j8⟩
    have G2 := G.keeps kg2
    have hcl2 := stays_list kg2 hcl
    have gD2 : g2.get? D = none := hx2 D (by simp)
    clear S3
    refine wpAny_assign_Name ?_
    obtain ⟨cj, hcj⟩ : ∃ cj, env.cells.lookup (Str.ofString "j") = some cj := ⟨s.heap.objs.size + 1, by walk_at "mine eq"⟩
    refine stC' S2 hts (by walk_at "mine eq") (by walk_at "mine eq") hcj ?_
    intro h4 tk4 ht4 S4 hs4
    have hD4 : h4.PlainList D (List.toArray ys) := j6.at fun o e => (hs4.2 _ (nD'.2 _ _ hcj)).trans e
    clear S2 j6
    walk1
    refine' asgCompN S4 a.hh (by walk_at "mine tok") hcl2 hlen.2 (fun i y fr => fr = [] ∧ IsF Dn y (c (xs.getD i 0) j)) [("j", s.heap.objs.size + 1)] ?hsw ?hclos ?hkind ?hcell ?hnames ?hs ?hcl ?hy ?hek (fun _ _ _ _ _ _ _ _ q => wpAny_pure q) ?hit ?helt ?fin
    walk_at "mine comp"
    case hit => intro Q' q; walk1; exact q
    case helt =>
      intro C g' s'' mb i v hts2 hv k3 B
      obtain ⟨x, hx, T, w0, w1, w2, rfl, hT, c0, c1, c2⟩ := paired_get hcols i v hv
      have hT3 : IsTup g' T _ := IsTup.keeps (IsTup.keeps hT kg2) k3
      refine wpAny_assign_Name (stB B hts2 (by walk_at "mine eq") (by walk_at "mine eq") fun h5 tk5 htk5 B5 hsb => ?_)
      clear B
      walk_at "mine go"
      refine itemT (IsTup.keeps hT3 B5.keep) (by omega) (by simp; omega) (by simp) fun v hv => ?_
      have e : xs.getD i 0 = x := by simp [List.getD_eq_getElem?_getD, hx]
      refine ⟨h5, _, _, [], rfl, B5, ⟨rfl, ?_⟩, fun q hq => (nomatch hq)⟩
      rw [e]
      have hj' : j = 0 ∨ j = 1 ∨ j = 2 := by omega
      rcases hj' with rfl | rfl | rfl
      · cases hv; exact c0
      · cases hv; exact c1
      · cases hv; exact c2
    case fin =>
      intro g5' Dp h5 tk5 parts htk5 S5' kg5' hpl' hpi nDp kb
      have hparts : Paired (IsF Dn) parts (xs.map fun x => c x j) := by
        refine paired_of_get (by rw [hpi.1, List.length_map, hcols.length]) fun i y b hy hb => ?_
        obtain ⟨fr, ⟨rfl, f1⟩, f2⟩ := hpi.get hy
        rw [List.getElem?_map] at hb
        obtain ⟨x, hx, rfl⟩ := Option.map_eq_some_iff.mp hb
        have e : xs.getD i 0 = x := by simp [List.getD_eq_getElem?_getD, hx]
        rw [e] at f1
        exact f1
      have hplen : parts.length = cols.length := hpi.1
      have hD5 : h5.PlainList D (List.toArray ys) := hD4.at fun o e => kb _ o nD'.1 e
      have nDD : Dp ≠ D := by rintro rfl; obtain ⟨cc, hcc⟩ := hD4; have := nDp; rw [show h4.get? Dp = some _ from hcc] at this; cases this
      -- the list that grows stands outside of what is kept
      have kh : (hideAll g5' [D]).StaysIn g5' := fun b o e => of_hideAll _ e
      have kg5 : g2.StaysIn (hideAll g5' [D]) := fun b o e => hideAll_get _ (kg5' b o e) (by intro hb; rw [List.mem_singleton.mp hb, gD2] at e; cases e)
      have hpl : (hideAll g5' [D]).IsList Dp parts.toArray := let ⟨o, ho, r⟩ := hpl'; ⟨o, hideAll_get _ ho (by intro hb; exact nDD (List.mem_singleton.mp hb)), r⟩
      have gD5 : (hideAll g5' [D]).get? D = none := hideAll_none _ (List.mem_singleton.mpr rfl)
      have S5 := S5'.less kh
      generalize hideAll g5' [D] = g5 at *
      clear S4 S5' hpi hpl' kg5' kh
      have G5 := G2.keeps kg5
      have hfm : (corner - 2 * (j : Int)).fmod 6 = (corner - 2 * j) % 6 := Int.fmod_eq_emod_of_nonneg _ (by decide)
      walk_at "mine go"
      obtain ⟨c5, hc5⟩ := hD5
      refine PySem.Calls.getMethod_list_append hc5 rfl rfl ?_
      walk_at "mine go"
      refine newT (by simp) ?_
      intro T6 h6 nT6 k6 hT6
      have S6 := S5.keeps k6
      walk_at "mine go"
      · rename_i cc
        refine' use (medHi_spec (sorts_float D0) ?hG a (by walk_at "mine tok") ?hl hparts (by omega) (by omega)) (by walk_at "mine tok") ?_
        case hG => exact G5.keeps S6.keep
        case hl => exact stays_list S6.keep hpl
        intro y h7 tk7 htk7 k7 hy
        have S7 := S6.keeps k7
        walk_at "mine go"
        refine wpAny_list_append_plain (hsz := by rw [List.size_toArray, sizeLine_eq]; omega) ⟨c5, k7 _ _ (k6 _ _ hc5)⟩ fun h8 hl8 hs8 => ?_
        walk_at "mine go"
        have S8 := S7.sameBut hs8 nD'.1 nD'.2 gD5
        refine Turn.of (S8.less kg5) ⟨by with_unfolding_all exact j1, by with_unfolding_all exact j2, by with_unfolding_all exact j3, by with_unfolding_all exact j4, by with_unfolding_all exact j5, ys ++ [y], plain_snoc hl8, by simp [j7], ?_⟩
        intro q y' hy'
        rcases getElem?_snoc hy' with ⟨g1, g2⟩ | ⟨g1, g2⟩
        · exact j8 q y' g2
        · subst g2
          rw [g1, j7]
          unfold midI
          rw [hfm] at cc
          rw [if_pos (by simp at cc; omega)]
          exact hy
      · rename_i cc
        refine' use (medLo_spec (sorts_float D0) ?hG a (by walk_at "mine tok") ?hl hparts (by omega) (by omega)) (by walk_at "mine tok") ?_
        case hG => exact G5.keeps S6.keep
        case hl => exact stays_list S6.keep hpl
        intro y h7 tk7 htk7 k7 hy
        have S7 := S6.keeps k7
        walk_at "mine go"
        refine wpAny_list_append_plain (hsz := by rw [List.size_toArray, sizeLine_eq]; omega) ⟨c5, k7 _ _ (k6 _ _ hc5)⟩ fun h8 hl8 hs8 => ?_
        walk_at "mine go"
        have S8 := S7.sameBut hs8 nD'.1 nD'.2 gD5
        refine Turn.of (S8.less kg5) ⟨by with_unfolding_all exact j1, by with_unfolding_all exact j2, by with_unfolding_all exact j3, by with_unfolding_all exact j4, by with_unfolding_all exact j5, ys ++ [y], plain_snoc hl8, by simp [j7], ?_⟩
        intro q y' hy'
        rcases getElem?_snoc hy' with ⟨g1, g2⟩ | ⟨g1, g2⟩
        · exact j8 q y' g2
        · subst g2
          rw [g1, j7]
          unfold midI
          rw [hfm] at cc
          rw [if_neg (by simp at cc; omega)]
          exact hy
theorem middle_hi {w : World} {A : Around} {s : Shared} {k : Nat} (G : Gd w s.heap) (a : AOk A (k + 2)) (ht : 1 ≤ s.toks) {Dn : Int} (D0 : 0 < Dn) {Dc : Addr} {cols : List Value} {xs : List Int} {c : Int → Int → Int} {corner : Int} {tc : Tok} (hc : 0 ≤ corner ∧ corner < 6)
    (hcl : s.heap.IsList Dc cols.toArray) (hcols : Paired (fun y x => ColAt s.heap y Dn (c x 0) (c x 1) (c x 2)) cols xs) (hlen : 0 < cols.length ∧ cols.length < 64) :
   codeAny (model Pr w) A (.call (.ref 93) ⟨[.ref Dc, .int corner tc, .ref 55, .ref 48], []⟩) (Ret s fun v h' => ∃ M w0 w1 w2, v = .ref M ∧ s.heap.get? M = none ∧ h'.IsList M [w0, w1, w2].toArray ∧
      IsF Dn w0 (midI false corner xs c 0) ∧ IsF Dn w1 (midI false corner xs c 1) ∧ IsF Dn w2 (midI false corner xs c 2)) s := by
  walk_at "mine fill"
  refine' enter [("falling", .ref 48), ("rising", .ref 55), ("corner", .int corner tc), ("colours", .ref Dc)] [] ?G ?a ?ht ?hK ?hcd ?hbody ?hbind ?hclo ?hkind ?hlb ?hcb ?h ?hco ?hgen ?hk
  walk_at "mine entered"
  clear a G ht
  intro A env h₁ tk hE ht a G S
  k_fold
  walk_at "mine go"
  refine newLP (by decide) ?_
  intro D h2 nD k2 hD
  have S2 := S.keeps k2
  have nD' := notHere S.toRd nD
  have gD : s.heap.get? D = none := none_less S.keep nD
  clear S
  refine stL' S2 (by walk_at "mine tok") (by walk_at "mine eq") (by walk_at "mine eq") ?_
  intro h3 tk3 ht3 S3 hs3
  have hD3 : h3.PlainList D #[] := hD.at fun o e => (hs3.2 _ nD'.1).trans e
  clear S2
  walk1
  refine forRange (g := s.heap) a.hh ht3 (k := 3) (by decide) [D] (fun i m cm h => m "middle" = some (.ref D) ∧ m "colours" = some (.ref Dc) ∧ m "corner" = some (.int corner tc) ∧ m "rising" = some (.ref 55) ∧ m "falling" = some (.ref 48) ∧
      ∃ ys : List Value, h.PlainList D ys.toArray ∧ ys.length = i ∧ ∀ (k : Nat) y, ys[k]? = some y → IsF Dn y (midI false corner xs c k)) ?hJ ?hex S3 ?J0 ?hit (fun _ => rfl) (fun _ _ => rfl) ?turn ?fin
  case hJ =>
    intro I i m cm h h' nI kk ⟨j1, j2, j3, j4, j5, ys, j6, j7⟩
    refine ⟨j1, j2, j3, j4, j5, ys, j6.at fun o e => kk _ o ?_ e, j7⟩
    rintro rfl
    obtain ⟨cc, hcc⟩ := hD3
    rw [nI] at hcc; cases hcc
  case hex =>
    intro b hb
    rw [List.mem_singleton.mp hb]
    exact ⟨gD, by obtain ⟨cc, hcc⟩ := hD3; show (h3.get? D).isSome = true; rw [hcc]; rfl⟩
  case J0 =>
    intro h kk
    exact ⟨by with_unfolding_all rfl, by with_unfolding_all rfl, by with_unfolding_all rfl, by with_unfolding_all rfl, by with_unfolding_all rfl, [], hD3.at fun o e => kk _ _ e, rfl, fun k y hy => by simp at hy⟩
  case hit =>
    intro Q' q
    walk_at "mine go"
    refine call_range_1 ?_
    exact q _ _ _ _ _ _ (by omega) (fun b o e => Heap.get?_push_of_some _ e) (fresh1 _ (Nat.le_refl _)) (IsRange.new _ 0 3 1 _ _ _)
  case fin =>
    intro m cm h tk htk S ⟨j1, j2, j3, j4, j5, ys, j6, j7, j8⟩
    walk_at "mine go"
    match ys, j6, j7, j8 with
    | [w0, w1, w2], j6, _, j8 => exact Done.of S (stays_refl _) ⟨D, w0, w1, w2, rfl, gD, j6.isList, j8 0 w0 rfl, j8 1 w1 rfl, j8 2 w2 rfl⟩
  case turn =>
    intro j tj m cm g2 s' hts hj kg2 hx2 S2 ⟨j1, j2, j3, j4, j5, ys, j6, j7, j8⟩
    have G2 := G.keeps kg2
    have hcl2 := stays_list kg2 hcl
    have gD2 : g2.get? D = none := hx2 D (by simp)
    clear S3
    refine wpAny_assign_Name ?_
    obtain ⟨cj, hcj⟩ : ∃ cj, env.cells.lookup (Str.ofString "j") = some cj := ⟨s.heap.objs.size + 1, by walk_at "mine eq"⟩
    refine stC' S2 hts (by walk_at "mine eq") (by walk_at "mine eq") hcj ?_
    intro h4 tk4 ht4 S4 hs4
    have hD4 : h4.PlainList D (List.toArray ys) := j6.at fun o e => (hs4.2 _ (nD'.2 _ _ hcj)).trans e
    clear S2 j6
    walk1
    refine' asgCompN S4 a.hh (by walk_at "mine tok") hcl2 hlen.2 (fun i y fr => fr = [] ∧ IsF Dn y (c (xs.getD i 0) j)) [("j", s.heap.objs.size + 1)] ?hsw ?hclos ?hkind ?hcell ?hnames ?hs ?hcl ?hy ?hek (fun _ _ _ _ _ _ _ _ q => wpAny_pure q) ?hit ?helt ?fin
    walk_at "mine comp"
    case hit => intro Q' q; walk1; exact q
    case helt =>
      intro C g' s'' mb i v hts2 hv k3 B
      obtain ⟨x, hx, T, w0, w1, w2, rfl, hT, c0, c1, c2⟩ := paired_get hcols i v hv
      have hT3 : IsTup g' T _ := IsTup.keeps (IsTup.keeps hT kg2) k3
      refine wpAny_assign_Name (stB B hts2 (by walk_at "mine eq") (by walk_at "mine eq") fun h5 tk5 htk5 B5 hsb => ?_)
      clear B
      walk_at "mine go"
      refine itemT (IsTup.keeps hT3 B5.keep) (by omega) (by simp; omega) (by simp) fun v hv => ?_
      have e : xs.getD i 0 = x := by simp [List.getD_eq_getElem?_getD, hx]
      refine ⟨h5, _, _, [], rfl, B5, ⟨rfl, ?_⟩, fun q hq => (nomatch hq)⟩
      rw [e]
      have hj' : j = 0 ∨ j = 1 ∨ j = 2 := by omega
      rcases hj' with rfl | rfl | rfl
      · cases hv; exact c0
      · cases hv; exact c1
      · cases hv; exact c2
    case fin =>
      intro g5' Dp h5 tk5 parts htk5 S5' kg5' hpl' hpi nDp kb
      have hparts : Paired (IsF Dn) parts (xs.map fun x => c x j) := by
        refine paired_of_get (by rw [hpi.1, List.length_map, hcols.length]) fun i y b hy hb => ?_
        obtain ⟨fr, ⟨rfl, f1⟩, f2⟩ := hpi.get hy
        rw [List.getElem?_map] at hb
        obtain ⟨x, hx, rfl⟩ := Option.map_eq_some_iff.mp hb
        have e : xs.getD i 0 = x := by simp [List.getD_eq_getElem?_getD, hx]
        rw [e] at f1
        exact f1
      have hplen : parts.length = cols.length := hpi.1
      have hD5 : h5.PlainList D (List.toArray ys) := hD4.at fun o e => kb _ o nD'.1 e
      have nDD : Dp ≠ D := by rintro rfl; obtain ⟨cc, hcc⟩ := hD4; have := nDp; rw [show h4.get? Dp = some _ from hcc] at this; cases this
      -- the list that grows stands outside of what is kept
      have kh : (hideAll g5' [D]).StaysIn g5' := fun b o e => of_hideAll _ e
      have kg5 : g2.StaysIn (hideAll g5' [D]) := fun b o e => hideAll_get _ (kg5' b o e) (by intro hb; rw [List.mem_singleton.mp hb, gD2] at e; cases e)
      have hpl : (hideAll g5' [D]).IsList Dp parts.toArray := let ⟨o, ho, r⟩ := hpl'; ⟨o, hideAll_get _ ho (by intro hb; exact nDD (List.mem_singleton.mp hb)), r⟩
      have gD5 : (hideAll g5' [D]).get? D = none := hideAll_none _ (List.mem_singleton.mpr rfl)
      have S5 := S5'.less kh
      generalize hideAll g5' [D] = g5 at *
      clear S4 S5' hpi hpl' kg5' kh
      have G5 := G2.keeps kg5
      have hfm : (corner - 2 * (j : Int)).fmod 6 = (corner - 2 * j) % 6 := Int.fmod_eq_emod_of_nonneg _ (by decide)
      walk_at "mine go"
      obtain ⟨c5, hc5⟩ := hD5
      refine PySem.Calls.getMethod_list_append hc5 rfl rfl ?_
      walk_at "mine go"
      refine newT (by simp) ?_
      intro T6 h6 nT6 k6 hT6
      have S6 := S5.keeps k6
      walk_at "mine go"
      · rename_i cc
        refine' use (medLo_spec (sorts_float D0) ?hG a (by walk_at "mine tok") ?hl hparts (by omega) (by omega)) (by walk_at "mine tok") ?_
        case hG => exact G5.keeps S6.keep
        case hl => exact stays_list S6.keep hpl
        intro y h7 tk7 htk7 k7 hy
        have S7 := S6.keeps k7
        walk_at "mine go"
        refine wpAny_list_append_plain (hsz := by rw [List.size_toArray, sizeLine_eq]; omega) ⟨c5, k7 _ _ (k6 _ _ hc5)⟩ fun h8 hl8 hs8 => ?_
        walk_at "mine go"
        have S8 := S7.sameBut hs8 nD'.1 nD'.2 gD5
        refine Turn.of (S8.less kg5) ⟨by with_unfolding_all exact j1, by with_unfolding_all exact j2, by with_unfolding_all exact j3, by with_unfolding_all exact j4, by with_unfolding_all exact j5, ys ++ [y], plain_snoc hl8, by simp [j7], ?_⟩
        intro q y' hy'
        rcases getElem?_snoc hy' with ⟨g1, g2⟩ | ⟨g1, g2⟩
        · exact j8 q y' g2
        · subst g2
          rw [g1, j7]
          unfold midI
          rw [hfm] at cc
          rw [if_pos (by simp at cc; omega)]
          exact hy
      · rename_i cc
        refine' use (medHi_spec (sorts_float D0) ?hG a (by walk_at "mine tok") ?hl hparts (by omega) (by omega)) (by walk_at "mine tok") ?_
        case hG => exact G5.keeps S6.keep
        case hl => exact stays_list S6.keep hpl
        intro y h7 tk7 htk7 k7 hy
        have S7 := S6.keeps k7
        walk_at "mine go"
        refine wpAny_list_append_plain (hsz := by rw [List.size_toArray, sizeLine_eq]; omega) ⟨c5, k7 _ _ (k6 _ _ hc5)⟩ fun h8 hl8 hs8 => ?_
        walk_at "mine go"
        have S8 := S7.sameBut hs8 nD'.1 nD'.2 gD5
        refine Turn.of (S8.less kg5) ⟨by with_unfolding_all exact j1, by with_unfolding_all exact j2, by with_unfolding_all exact j3, by with_unfolding_all exact j4, by with_unfolding_all exact j5, ys ++ [y], plain_snoc hl8, by simp [j7], ?_⟩
        intro q y' hy'
        rcases getElem?_snoc hy' with ⟨g1, g2⟩ | ⟨g1, g2⟩
        · exact j8 q y' g2
        · subst g2
          rw [g1, j7]
          unfold midI
          rw [hfm] at cc
          rw [if_neg (by simp at cc; omega)]
          exact hy
end
section
/-- the level in the half turn that begins e sixths behind the component's own corner -/
def Hh (e n x : Int) : Int := if e = 5 then min (max (3 * n - x) 0) n else if e = 0 then min (max (2 * n - x) 0) n else if e = 1 then min (max (n - x) 0) n else if e = 2 then min (max (x - 2 * n) 0) n else if e = 3 then min (max (x - n) 0) n else min (max x 0) n
theorem cl_hi {a n : Int} (hn : 0 < n) (h : n ≤ a) : min (max a 0) n = n := by omega
theorem cl_mid {a n : Int} (h0 : 0 ≤ a) (h : a ≤ n) : min (max a 0) n = a := by omega
theorem cl_lo {a n : Int} (hn : 0 < n) (h : a ≤ 0) : min (max a 0) n = 0 := by omega
theorem Hh_at {x corner n j : Int} (hn : 0 < n) (h0 : 0 ≤ x) (h1 : x ≤ 3 * n) : highI (wayI (x + corner * n) j n) n = Hh ((corner - 2 * j) % 6) n x := by
  obtain ⟨q, r, hq0, hq1, hr0, hr1, hx⟩ : ∃ q r, 0 ≤ q ∧ q < 4 ∧ 0 ≤ r ∧ r < n ∧ x = q * n + r := by
    refine ⟨x / n, x % n, Int.ediv_nonneg h0 (by omega), Int.ediv_lt_of_lt_mul hn (by omega), Int.emod_nonneg _ (by omega), Int.emod_lt_of_pos _ hn, ?_⟩
    rw [Int.mul_comm (x / n) n]
    exact (Int.mul_ediv_add_emod _ _).symm
  have e1 : (corner - 2 * j + q) = (corner - 2 * j + q) % 6 + 6 * ((corner - 2 * j + q) / 6) := by omega
  rw [high_at (e := (corner - 2 * j + q) % 6) (u := (corner - 2 * j + q) / 6) (r := r) hr0 hr1 (by omega) (by omega) ?_]
  · have e2 : (corner - 2 * j + q) % 6 = ((corner - 2 * j) % 6 + q) % 6 := by omega
    rw [e2]
    have hE0 : 0 ≤ (corner - 2 * j) % 6 := by omega
    have hE1 : (corner - 2 * j) % 6 < 6 := by omega
    generalize (corner - 2 * j) % 6 = e at *
    have hE : e = 0 ∨ e = 1 ∨ e = 2 ∨ e = 3 ∨ e = 4 ∨ e = 5 := by omega
    have hQ : q = 0 ∨ q = 1 ∨ q = 2 ∨ q = 3 := by omega
    clear e1 e2 hq0 hq1 hE0 hE1 h0
    rcases hE with rfl | rfl | rfl | rfl | rfl | rfl <;> rcases hQ with rfl | rfl | rfl | rfl <;> simp [hiAt, Hh] <;> (first | (rw [cl_hi hn (by omega)]; done) | (rw [cl_lo hn (by omega)]; done) | (rw [cl_mid (by omega) (by omega)]; omega) | omega)
  · generalize (corner - 2 * j + q) % 6 = e at *
    generalize (corner - 2 * j + q) / 6 = u at *
    have : x + corner * n - 2 * j * n = (corner - 2 * j + q) * n + r := by rw [hx]; grind
    rw [this, e1]; grind
/-- a component as the place in the half turn tells it -/
def fI (corner n share value j x : Int) : Int := lev n share value (Hh ((corner - 2 * j) % 6) n x)
theorem fI_part {x corner n share value j : Int} (hn : 0 < n) (h0 : 0 ≤ x) (h1 : x ≤ 3 * n) : fI corner n share value j x = partI (wayI (x + corner * n) j n) n share value := by
  unfold fI partI lev; rw [Hh_at hn h0 h1]
theorem lev_mono {n share value a b : Int} (p : Prm n share value) (h : a ≤ b) : lev n share value a ≤ lev n share value b := by
  have h3 := p.s1
  have h5 := p.v1
  unfold lev
  have e1 : share * (n - b) ≤ share * (n - a) := Int.mul_le_mul_of_nonneg_left (by omega) (by omega)
  exact Int.mul_le_mul_of_nonneg_left (by omega) (by omega)
theorem fI_anti {corner n share value j : Int} (p : Prm n share value) (he : (corner - 2 * j) % 6 = 5 ∨ (corner - 2 * j) % 6 = 0 ∨ (corner - 2 * j) % 6 = 1) (a b : Int) (h : a ≤ b) : fI corner n share value j b ≤ fI corner n share value j a := by
  unfold fI
  apply lev_mono p
  rcases he with e | e | e <;> rw [e] <;> simp [Hh] <;> omega
theorem fI_mono {corner n share value j : Int} (p : Prm n share value) (he : ¬ ((corner - 2 * j) % 6 = 5 ∨ (corner - 2 * j) % 6 = 0 ∨ (corner - 2 * j) % 6 = 1)) (a b : Int) (h : a ≤ b) : fI corner n share value j a ≤ fI corner n share value j b := by
  unfold fI
  apply lev_mono p
  have e : (corner - 2 * j) % 6 = 2 ∨ (corner - 2 * j) % 6 = 3 ∨ (corner - 2 * j) % 6 = 4 := by omega
  rcases e with e | e | e <;> rw [e] <;> simp [Hh] <;> omega
def medOf (lo : Bool) (xs : List Int) : Int := if lo then medLo xs else medHi xs
theorem medOf_mem {lo : Bool} {xs : List Int} (h : 0 < xs.length) : medOf lo xs ∈ xs := by
  unfold medOf; split
  · exact medLo_mem h
  · exact medHi_mem h
theorem mid_at {lo : Bool} {corner n share value : Int} (p : Prm n share value) {xs : List Int} {c : Int → Int → Int} {j : Nat} (h : 0 < xs.length) (hc : ∀ x ∈ xs, c x j = fI corner n share value j x) : midI lo corner xs c j = fI corner n share value j (medOf lo xs) := by
  have e : (xs.map fun x => c x j) = xs.map (fI corner n share value j) := List.map_congr_left hc
  unfold midI medOf
  rw [e]
  split
  · rename_i he
    split
    · exact medHi_anti (fI_anti p he) h
    · exact medLo_anti (fI_anti p he) h
  · rename_i he
    split
    · exact medLo_mono (fI_mono p he) h
    · exact medHi_mono (fI_mono p he) h
/-- x, split into its three parts -/
def aI (n x : Int) : Int := min x n
def bI (n x : Int) : Int := min (max (x - n) 0) n
def cI (n x : Int) : Int := max (x - 2 * n) 0
theorem abc_sum {n x : Int} (hn : 0 < n) (x0 : 0 ≤ x) (x1 : x ≤ 3 * n) : aI n x + bI n x + cI n x = x := by unfold aI bI cI; omega
theorem aI_mono {n x y : Int} (h : x ≤ y) : aI n x ≤ aI n y := by unfold aI; omega
theorem bI_mono {n x y : Int} (h : x ≤ y) : bI n x ≤ bI n y := by unfold bI; omega
theorem cI_mono {n x y : Int} (h : x ≤ y) : cI n x ≤ cI n y := by unfold cI; omega
theorem Hh_eq4 {n x : Int} (x0 : 0 ≤ x) : Hh 4 n x = aI n x := by simp only [Hh, aI, Int.reduceEq, if_false]; omega
theorem Hh_eq1 {n x : Int} (hn : 0 < n) (x0 : 0 ≤ x) : Hh 1 n x = n - aI n x := by simp only [Hh, aI, Int.reduceEq, if_false, if_true]; omega
theorem Hh_eq3 {n x : Int} : Hh 3 n x = bI n x := by simp only [Hh, bI, Int.reduceEq, if_false, if_true]
theorem Hh_eq0 {n x : Int} (hn : 0 < n) : Hh 0 n x = n - bI n x := by simp only [Hh, bI, Int.reduceEq, if_false, if_true]; omega
theorem Hh_eq2 {n x : Int} (hn : 0 < n) (x1 : x ≤ 3 * n) : Hh 2 n x = cI n x := by simp only [Hh, cI, Int.reduceEq, if_false, if_true]; omega
theorem Hh_eq5 {n x : Int} (hn : 0 < n) (x1 : x ≤ 3 * n) : Hh 5 n x = n - cI n x := by simp only [Hh, cI, if_true]; omega
theorem abs_flip (n a b : Int) : (n - a - (n - b)).natAbs = (a - b).natAbs := by
  rw [show n - a - (n - b) = -(a - b) by omega, Int.natAbs_neg]
theorem abs3 {A B C X : Int} (h : A + B + C = X) (hs : (0 ≤ A ∧ 0 ≤ B ∧ 0 ≤ C) ∨ (A ≤ 0 ∧ B ≤ 0 ∧ C ≤ 0)) : (A.natAbs : Int) + (B.natAbs : Int) + (C.natAbs : Int) = (X.natAbs : Int) := by
  rcases hs with ⟨h1, h2, h3⟩ | ⟨h1, h2, h3⟩
  · rw [Int.natAbs_of_nonneg h1, Int.natAbs_of_nonneg h2, Int.natAbs_of_nonneg h3, Int.natAbs_of_nonneg (by omega), h]
  · rw [← Int.natAbs_neg A, ← Int.natAbs_neg B, ← Int.natAbs_neg C, ← Int.natAbs_neg X, Int.natAbs_of_nonneg (by omega), Int.natAbs_of_nonneg (by omega), Int.natAbs_of_nonneg (by omega), Int.natAbs_of_nonneg (by omega)]
    omega
theorem dist3 {n x y : Int} (hn : 0 < n) (x0 : 0 ≤ x) (x1 : x ≤ 3 * n) (y0 : 0 ≤ y) (y1 : y ≤ 3 * n) :
    ((Hh 4 n x - Hh 4 n y).natAbs : Int) + ((Hh 0 n x - Hh 0 n y).natAbs : Int) + ((Hh 2 n x - Hh 2 n y).natAbs : Int) = ((x - y).natAbs : Int) ∧
    ((Hh 1 n x - Hh 1 n y).natAbs : Int) + ((Hh 3 n x - Hh 3 n y).natAbs : Int) + ((Hh 5 n x - Hh 5 n y).natAbs : Int) = ((x - y).natAbs : Int) := by
  rw [Hh_eq4 x0, Hh_eq4 y0, Hh_eq0 hn, Hh_eq0 hn, Hh_eq2 hn x1, Hh_eq2 hn y1, Hh_eq1 hn x0, Hh_eq1 hn y0, Hh_eq3, Hh_eq3, Hh_eq5 hn x1, Hh_eq5 hn y1, abs_flip, abs_flip, abs_flip]
  have key : ((aI n x - aI n y).natAbs : Int) + ((bI n x - bI n y).natAbs : Int) + ((cI n x - cI n y).natAbs : Int) = ((x - y).natAbs : Int) := by
    have sx := abc_sum hn x0 x1
    have sy := abc_sum hn y0 y1
    refine abs3 (by omega) ?_
    rcases Int.le_total y x with h | h
    · exact .inl ⟨Int.sub_nonneg_of_le (aI_mono h), Int.sub_nonneg_of_le (bI_mono h), Int.sub_nonneg_of_le (cI_mono h)⟩
    · exact .inr ⟨Int.sub_nonpos_of_le (aI_mono h), Int.sub_nonpos_of_le (bI_mono h), Int.sub_nonpos_of_le (cI_mono h)⟩
  exact ⟨key, key⟩
theorem H_dist {corner n : Int} (hn : 0 < n) {x y : Int} (x0 : 0 ≤ x) (x1 : x ≤ 3 * n) (y0 : 0 ≤ y) (y1 : y ≤ 3 * n) :
    ((Hh ((corner - 2 * 0) % 6) n x - Hh ((corner - 2 * 0) % 6) n y).natAbs : Int) + ((Hh ((corner - 2 * 1) % 6) n x - Hh ((corner - 2 * 1) % 6) n y).natAbs : Int) + ((Hh ((corner - 2 * 2) % 6) n x - Hh ((corner - 2 * 2) % 6) n y).natAbs : Int) = ((x - y).natAbs : Int) := by
  have e1 : (corner - 2 * 1) % 6 = (corner % 6 + 4) % 6 := by omega
  have e2 : (corner - 2 * 2) % 6 = (corner % 6 + 2) % 6 := by omega
  have e0 : (corner - 2 * 0) % 6 = corner % 6 := by omega
  rw [e0, e1, e2]
  have h0 : 0 ≤ corner % 6 := by omega
  have h1 : corner % 6 < 6 := by omega
  generalize corner % 6 = e at *
  have hE : e = 0 ∨ e = 1 ∨ e = 2 ∨ e = 3 ∨ e = 4 ∨ e = 5 := by omega
  clear e0 e1 e2
  obtain ⟨d1, d2⟩ := dist3 hn x0 x1 y0 y1
  rcases hE with rfl | rfl | rfl | rfl | rfl | rfl <;> simp only [Int.reduceAdd, Int.reduceMod] <;> omega
theorem f_dist {corner n share value : Int} (p : Prm n share value) {x y : Int} (x0 : 0 ≤ x) (x1 : x ≤ 3 * n) (y0 : 0 ≤ y) (y1 : y ≤ 3 * n) :
    ((fI corner n share value 0 x - fI corner n share value 0 y).natAbs : Int) + ((fI corner n share value 1 x - fI corner n share value 1 y).natAbs : Int) + ((fI corner n share value 2 x - fI corner n share value 2 y).natAbs : Int) = share * value * ((x - y).natAbs : Int) := by
  have h3 := p.s1
  have h5 := p.v1
  have hn := p.n16
  have key : ∀ a b : Int, ((lev n share value a - lev n share value b).natAbs : Int) = share * value * ((a - b).natAbs : Int) := by
    intro a b
    have e : lev n share value a - lev n share value b = share * value * (a - b) := by unfold lev; grind
    rw [e, Int.natAbs_mul, Int.natCast_mul]
    congr 1
    have : 0 ≤ share * value := Int.mul_nonneg (by omega) (by omega)
    omega
  unfold fI
  rw [key, key, key, ← Int.mul_add, ← Int.mul_add, H_dist (by omega) x0 x1 y0 y1]
theorem way_mod {p q j n : Int} (h : p % (6 * n) = q % (6 * n)) : wayI p j n = wayI q j n := by
  unfold wayI
  have : (p - 2 * j * n) % (6 * n) = (q - 2 * j * n) % (6 * n) := by
    rw [Int.sub_emod p, h, ← Int.sub_emod]
  rw [this]
/-- a place of the row: the hue behind it is whole -/
theorem hue_whole {num corner n share value : Int} (p : Prm n share value) : (placeI num corner n + corner * n) % (6 * n) % 6 = 0 := by
  obtain ⟨m, rfl, hm⟩ := p.even
  have e : ∃ u, placeI num corner (16 * m) + corner * (16 * m) = 6 * u := by
    unfold placeI
    have h := Int.emod_def (6 * num - corner * (16 * m)) (6 * (16 * m))
    generalize (6 * num - corner * (16 * m)) / (6 * (16 * m)) = q at h
    split
    · exact ⟨num - 16 * m * q, by rw [h]; grind⟩
    · exact ⟨num - 16 * m * q - 8 * m, by rw [h]; grind⟩
  obtain ⟨u, hu⟩ := e
  rw [hu]
  have h := Int.emod_def (6 * u) (6 * (16 * m))
  generalize 6 * u / (6 * (16 * m)) = q at h
  have : 6 * u - 6 * (16 * m) * q = 6 * (u - 16 * m * q) := by grind
  rw [h, this]; omega
theorem hue_six {x corner n : Int} (h : (x + corner * n) % (6 * n) % 6 = 0) : 6 * hueI x corner n = (x + corner * n) % (6 * n) := by
  unfold hueI; omega
theorem col_f {x corner n share value : Int} (p : Prm n share value) (h : (x + corner * n) % (6 * n) % 6 = 0) (h0 : 0 ≤ x) (h1 : x ≤ 3 * n) (j : Int) : colI (hueI x corner n) j n share value = fI corner n share value j x := by
  have hn := p.n16
  rw [fI_part (by omega) h0 h1]
  unfold colI
  congr 1
  apply way_mod
  rw [hue_six h, Int.emod_emod]
end
section
theorem sum_bd {B : Int} : ∀ (as : List Int), (∀ a ∈ as, 0 ≤ a ∧ a ≤ B) → 0 ≤ as.sum ∧ as.sum ≤ as.length * B
  | [], _ => by simp
  | a :: r, h => by
    have h1 := h a (List.mem_cons_self ..)
    have h2 := sum_bd r fun b hb => h b (List.mem_cons_of_mem _ hb)
    simp only [List.sum_cons, List.length_cons]
    have : (((r.length + 1 : Nat) : Int)) * B = r.length * B + B := by rw [Int.natCast_add, Int.add_mul]; simp
    omega
theorem sum_mul {c : Int} {f g : Int → Int} : ∀ (xs : List Int), (∀ x ∈ xs, f x = c * g x) → (xs.map f).sum = c * (xs.map g).sum
  | [], _ => by simp
  | x :: r, h => by
    simp only [List.map_cons, List.sum_cons]
    rw [h x (List.mem_cons_self ..), sum_mul r fun y hy => h y (List.mem_cons_of_mem _ hy), Int.mul_add]
theorem fI_bd {corner n share value j x : Int} (p : Prm n share value) (h0 : 0 ≤ x) (h1 : x ≤ 3 * n) : 0 ≤ fI corner n share value j x ∧ fI corner n share value j x ≤ 274877906944 := by
  have hn := p.n16
  rw [fI_part (by omega) h0 h1]
  have := part_bd (way := wayI (x + corner * n) j n) p
  omega
def offI (corner n share value pl x : Int) : Int := ((fI corner n share value 0 x - fI corner n share value 0 pl).natAbs : Int) + ((fI corner n share value 1 x - fI corner n share value 1 pl).natAbs : Int) + ((fI corner n share value 2 x - fI corner n share value 2 pl).natAbs : Int)
end
section
theorem half_spec {w : World} {A : Around} {s : Shared} {k : Nat} (G : Gd w s.heap) (a : AOk A (k + 3)) (ht : 1 ≤ s.toks) {n share value : Int} (p : Prm n share value) {l : Addr} {vs : List Value} {row : List Int} {corner : Int} {t1 t2 t3 t4 : Tok}
    (hl : s.heap.IsList l vs.toArray) (hp : Paired IsI vs row) (hlen : 0 < vs.length ∧ vs.length < 64) (hrow : ∀ x ∈ row, 0 ≤ x ∧ x < 8 * n) (hc : 0 ≤ corner ∧ corner < 6) :
   codeAny (model Pr w) A (.call (.ref 98) ⟨[.ref l, .int corner t1, .int n t2, .int share t3, .int value t4], []⟩) (Ret s fun v _ => v = .bool true) s := by
  walk_at "mine fill"
  refine' enter [("row", .ref l)] [("value", .int value t4), ("share", .int share t3), ("n", .int n t2), ("corner", .int corner t1)] ?G ?a ?ht ?hK ?hcd ?hbody ?hbind ?hclo ?hkind ?hlb ?hcb ?h ?hco ?hgen ?hk
  walk_at "mine entered"
  clear a G ht
  intro A env h₁ tk hE ht a G S
  k_fold
  have n1 := p.n16
  have n2 := p.n18
  have s1 := p.s1
  have s2 := p.s2
  have v1 := p.v1
  have v2 := p.v2
  have D0 := p.pD.pos
  obtain ⟨xs, hxs⟩ : ∃ xs, xs = row.map fun x => placeI x corner n := ⟨_, rfl⟩
  have xlen : xs.length = vs.length := by rw [hxs, List.length_map, hp.length]
  have x0 : 0 < xs.length := by omega
  have xbd : ∀ x ∈ xs, 0 ≤ x ∧ x ≤ 3 * n := by
    intro x hx
    rw [hxs] at hx
    obtain ⟨num, _, rfl⟩ := List.mem_map.mp hx
    exact place_bd (by omega)
  have xwh : ∀ x ∈ xs, (x + corner * n) % (6 * n) % 6 = 0 := by
    intro x hx
    rw [hxs] at hx
    obtain ⟨num, _, rfl⟩ := List.mem_map.mp hx
    exact hue_whole p
  have hcn := mul_bd (a := corner) (b := n) (x := 5) (y := 262144) hc.1 (by omega) (by omega) n2
  walk_at "mine go"
  refine' use (places_spec ?hG a (by walk_at "mine tok") p ?hl hp hlen hrow hc) (by walk_at "mine tok") ?_
  case hG => exact G.keeps S.keep
  case hl => exact stays_list S.keep hl
  intro y h2 tk2 htk2 k2 hy
  obtain ⟨Dp, pvs, rfl, nDp, hDp, hpp⟩ := hy
  rw [← hxs] at hpp
  have plen : pvs.length = vs.length := by rw [hpp.length, xlen]
  obtain ⟨g2, S2, kg2, nw2⟩ := S.grow k2
  have hDp2 := isList_new nDp hDp nw2
  have G2 := G.keeps kg2
  clear S nw2 hDp
  walk_at "mine go"
  rename_i h3 tk3 ht3 S3
  clear S2
  refine' asgCompN S3 a.hh (by walk_at "mine tok") hDp2 (by omega) (ColF (1048576 * n) fun i j => colI (hueI (xs.getD i 0) corner n) j n share value) [("value", s.heap.objs.size + 4), ("share", s.heap.objs.size + 3), ("n", s.heap.objs.size + 2), ("corner", s.heap.objs.size + 1)] ?hsw ?hclos ?hkind ?hcell ?hnames ?hs ?hcl ?hy ?hek (fun _ _ _ _ _ _ _ _ q => wpAny_pure q) ?hit ?helt ?fin
  walk_at "mine comp"
  case hit => intro Q' q; walk1; exact q
  case helt =>
    intro C g' s' mb i v hts hv kq B
    have G' := G2.keeps kq
    obtain ⟨x, hx, t, rfl⟩ := paired_get hpp i v hv
    have hxm := xbd x (List.mem_of_getElem? hx)
    have hh := hue_bd (place := x) (corner := corner) (show 0 < n by omega)
    refine wpAny_assign_Name (stB B hts (by walk_at "mine eq") (by walk_at "mine eq") fun h4 tk4 htk4 B4 hsb => ?_)
    clear B
    walk_at "mine go"
    refine' use (hue_spec ?hG a (by walk_at "mine tok") x corner n _ _ _ p (by omega) hc) (by walk_at "mine tok") ?_
    case hG => exact G'.keeps B4.keep
    intro y h5 tk5 htk5 k5 hy
    obtain ⟨hxx, th, rfl, hth, Rh⟩ := hy
    have B5 := B4.keeps k5
    walk_at "mine go"
    refine divI share 1024 a.hh (by walk_at "mine tok") (by decide) p2_1024 (by omega) rfl (by omega) ?_
    intro sx tsx tksx htksx htsx Rs
    walk_at "mine go"
    refine divI value 1024 a.hh (by walk_at "mine tok") (by decide) p2_1024 (by omega) rfl (by omega) ?_
    intro vx tvx tkvx htkvx htvx Rv
    walk_at "mine go"
    refine' use (hsv_spec ?hG a (by walk_at "mine tok") p (hueI x corner n) hh.1 (by omega) htvx Rh Rs Rv) (by walk_at "mine tok") ?_
    case hG => exact G'.keeps B5.keep
    intro y h6 tk6 htk6 k6 hcol
    obtain ⟨T, w0, w1, w2, rfl, nT, ⟨o, ho, hoc, hod⟩, c0, c1, c2⟩ := hcol
    have e : xs.getD i 0 = x := by simp [List.getD_eq_getElem?_getD, hx]
    refine ⟨h6, tk6, _, [(T, o)], rfl, B5.keeps k6, ⟨T, w0, w1, w2, o, rfl, rfl, hoc, hod, by dsimp only; rw [e]; exact c0, by dsimp only; rw [e]; exact c1, by dsimp only; rw [e]; exact c2⟩, ?_⟩
    intro q hq
    rw [List.mem_singleton.mp hq]
    exact ⟨none_less B5.keep nT, (notHere B5.toRd nT).1, ho⟩
  case fin =>
    intro g3 Dc h4 tk4 cols htk4 S4 kg3 hDc hitems _ _
    have hcols : Paired (fun y x => ColAt g3 y (1048576 * n) (colI (hueI x corner n) 0 n share value) (colI (hueI x corner n) 1 n share value) (colI (hueI x corner n) 2 n share value)) cols xs := by
      refine paired_of_get (by rw [hitems.1, hpp.length]) fun i y x hy hx => ?_
      obtain ⟨fr, f1, f2⟩ := hitems.get hy
      have e : xs.getD i 0 = x := by simp [List.getD_eq_getElem?_getD, hx]
      have := f1.at f2
      rwa [e] at this
    have hclen : cols.length = vs.length := by rw [hitems.1, plen]
    clear S3 hitems
    have G3 := G2.keeps kg3
    have hDp3 := stays_list kg3 hDp2
    walk1
    refine wpAny_For ?_ (fun _ => rfl)
    walk_at "mine go"
    refine newT (by simp) ?_
    intro T1 h5 nT1 k5 hT1
    obtain ⟨g5, S5, kg5, nw5⟩ := S4.grow k5
    have hT15 := isTup_new nT1 hT1 nw5
    have G5 := G3.keeps kg5
    clear S4 nw5 hT1
    walk_at "mine go"
    refine newT (by simp) ?_
    intro T2 h6 nT2 k6 hT2
    obtain ⟨g6, S6, kg6, nw6⟩ := S5.grow k6
    have hT26 := isTup_new nT2 hT2 nw6
    have hT16 := IsTup.keeps hT15 kg6
    have G6 := G5.keeps kg6
    clear S5 nw6 hT2 hT15
    walk_at "mine go"
    refine newT (by simp) ?_
    intro T0 h7 nT0 k7 hT0
    obtain ⟨g7, S7, kg7, nw7⟩ := S6.grow k7
    have hT07 := isTup_new nT0 hT0 nw7
    have hT17 := IsTup.keeps hT16 kg7
    have hT27 := IsTup.keeps hT26 kg7
    have G7 := G6.keeps kg7
    have k37 := stays_trans kg5 (stays_trans kg6 kg7)
    have hDp7 := stays_list k37 hDp3
    have hDc7 := stays_list k37 hDc
    clear S6 nw7 hT0 hT16 hT26 kg5 kg6 kg7
    refine forTup (g := g7) a.hh (by walk_at "mine tok") hT07 (fun i m cm => m "places" = some (.ref Dp) ∧ m "colours" = some (.ref Dc) ∧ cm "corner" = some (.int corner t1) ∧ cm "n" = some (.int n t2) ∧ cm "share" = some (.int share t3) ∧ cm "value" = some (.int value t4)) S7 ?J0 ?hgo ?turn ?fin
    case J0 => exact ⟨by with_unfolding_all rfl, by with_unfolding_all rfl, by with_unfolding_all rfl, by with_unfolding_all rfl, by with_unfolding_all rfl, by with_unfolding_all rfl⟩
    case hgo =>
      intro I v i s' Q E hv hit q
      match i, hv with
      | 0, hv => cases hv; exact goTup hit q
      | 1, hv => cases hv; exact goTup hit q
      | i + 2, hv => simp at hv
    case fin =>
      intro m cm h tk htk S j
      walk_at "mine go"
      exact Done.of S (stays_trans kg2 (stays_trans kg3 k37)) rfl
    case turn =>
      intro i v m cm g8 s' hts hv kg8 S8 ⟨j1, j2, j3, j4, j5, j6⟩
      have G8 := G7.keeps kg8
      have hDp8 := stays_list kg8 hDp7
      have hDc8 := stays_list kg8 hDc7
      have hcols8 : Paired (fun y x => ColAt g8 y (1048576 * n) (colI (hueI x corner n) 0 n share value) (colI (hueI x corner n) 1 n share value) (colI (hueI x corner n) 2 n share value)) cols xs :=
        hcols.mono fun y x ⟨T, w0, w1, w2, e, hT, r⟩ => ⟨T, w0, w1, w2, e, IsTup.keeps (IsTup.keeps hT k37) kg8, r⟩
      clear S7
      match i, hv with
      | i + 2, hv => simp at hv
      | 0, hv =>
        cases hv
        have hpm := medOf_mem (lo := true) x0
        obtain ⟨pl, hpl⟩ : ∃ pl, pl = medOf true xs := ⟨_, rfl⟩
        rw [← hpl] at hpm
        have pbd := xbd pl hpm
        have pwh := xwh pl hpm
        have cfI : ∀ j : Int, ∀ x ∈ xs, colI (hueI x corner n) j n share value = fI corner n share value j x := fun j x hx => col_f p (xwh x hx) (xbd x hx).1 (xbd x hx).2 j
        refine apartT a.hh (IsTup.keeps hT17 (stays_trans kg8 S8.keep)) rfl rfl ?_
        intro h9 k9
        have S9 := S8.keeps k9
        refine assignInOrder_cons (wpAny_assign_Name ?_)
        walk1
        refine assignInOrder_cons (wpAny_assign_Name ?_)
        walk1
        refine assignInOrder_nil ?_
        clear S8 S9
        walk_at "mine go"
        rename_i h10 tk10 ht10 S10
        refine' use (medLo_spec sorts_int ?hG a (by walk_at "mine tok") ?hl hpp (by omega) (by omega)) (by walk_at "mine tok") ?_
        case hG => exact G8.keeps S10.keep
        case hl => exact stays_list S10.keep hDp8
        intro y h11 tk11 htk11 k11 hy
        rw [show medLo xs = pl from hpl.symm] at hy
        obtain ⟨tpl, rfl⟩ := hy
        have S11 := S10.keeps k11
        clear S10
        walk_at "mine go"
        rename_i h12 tk12 ht12 S12
        refine' use (middle_lo (c := fun x j => colI (hueI x corner n) j n share value) (xs := xs) (cols := cols) ?hG a (by walk_at "mine tok") D0 hc ?hl ?hcc (by omega)) (by walk_at "mine tok") ?_
        case hG => exact G8.keeps S12.keep
        case hl => exact stays_list S12.keep hDc8
        case hcc => exact hcols8.mono fun y x h => by (obtain ⟨T, w0, w1, w2, e, hT, r⟩ := h; exact ⟨T, w0, w1, w2, e, IsTup.keeps hT S12.keep, r⟩)
        intro y h13 tk13 htk13 k13 hy
        obtain ⟨M, w0, w1, w2, rfl, nM, hM, c0, c1, c2⟩ := hy
        rw [mid_at (j := 0) p x0 (fun x hx => cfI 0 x hx), show medOf true xs = pl from hpl.symm] at c0
        rw [mid_at (j := 1) p x0 (fun x hx => cfI 1 x hx), show medOf true xs = pl from hpl.symm] at c1
        rw [mid_at (j := 2) p x0 (fun x hx => cfI 2 x hx), show medOf true xs = pl from hpl.symm] at c2
        have S13 := S12.keeps k13
        clear S12
        refine' apartL (vs := [w0, w1, w2]) a.hh ?hl rfl rfl ?_
        case hl => exact hM
        intro h14 k14
        have S14 := S13.keeps k14
        clear S13
        refine assignInOrder_cons (wpAny_assign_Name ?_)
        walk1
        refine assignInOrder_cons (wpAny_assign_Name ?_)
        walk1
        refine assignInOrder_cons (wpAny_assign_Name ?_)
        walk1
        refine assignInOrder_nil ?_
        rename_i h15 tk15 ht15 S15
        clear S14
        walk1
        refine wpAny_For ?_ (fun _ => rfl)
        walk_at "mine go"
        refine newT (by simp) ?_
        intro U0 h16 nU0 k16 hU0
        obtain ⟨g16, S16, kg16, nw16⟩ := S15.grow k16
        have hU016 := isTup_new nU0 hU0 nw16
        have G16 := G8.keeps kg16
        clear nw16 hU0 S15
        walk_at "mine go"
        refine newT (by simp) ?_
        intro U1 h17 nU1 k17 hU1
        obtain ⟨g17, S17, kg17, nw17⟩ := S16.grow k17
        have hU117 := isTup_new nU1 hU1 nw17
        have hU017 := IsTup.keeps hU016 kg17
        have G17 := G16.keeps kg17
        clear S16 nw17 hU1 hU016
        walk_at "mine go"
        refine newT (by simp) ?_
        intro U2 h18 nU2 k18 hU2
        obtain ⟨g18, S18, kg18, nw18⟩ := S17.grow k18
        have hU218 := isTup_new nU2 hU2 nw18
        have hU118 := IsTup.keeps hU117 kg18
        have hU018 := IsTup.keeps hU017 kg18
        have G18 := G17.keeps kg18
        clear S17 nw18 hU2 hU117 hU017
        walk_at "mine go"
        refine newT (by simp) ?_
        intro U3 h19 nU3 k19 hU3
        obtain ⟨g19, S19, kg19, nw19⟩ := S18.grow k19
        have hU319 := isTup_new nU3 hU3 nw19
        have hU219 := IsTup.keeps hU218 kg19
        have hU119 := IsTup.keeps hU118 kg19
        have hU019 := IsTup.keeps hU018 kg19
        have G19 := G18.keeps kg19
        have k8 := stays_trans kg16 (stays_trans kg17 (stays_trans kg18 kg19))
        clear S18 nw19 hU3 hU218 hU118 hU018 kg16 kg17 kg18 kg19
        refine forTup (g := g19) a.hh (by walk_at "mine tok") hU319 (fun i m cm => m "places" = some (.ref Dp) ∧ m "colours" = some (.ref Dc) ∧ cm "corner" = some (.int corner t1) ∧ cm "n" = some (.int n t2) ∧ cm "share" = some (.int share t3) ∧ cm "value" = some (.int value t4) ∧
            cm "place" = some (.int pl tpl) ∧ cm "red" = some w0 ∧ cm "green" = some w1 ∧ cm "blue" = some w2) S19 ?J0 ?hgo ?turn ?fin
        case J0 => exact ⟨by with_unfolding_all exact j1, by with_unfolding_all exact j2, by with_unfolding_all exact j3, by with_unfolding_all exact j4, by with_unfolding_all exact j5, by with_unfolding_all exact j6, by with_unfolding_all rfl, by with_unfolding_all rfl, by with_unfolding_all rfl, by with_unfolding_all rfl⟩
        case hgo =>
          intro I v i s' Q E hv hit q
          match i, hv with
          | 0, hv => cases hv; exact goTup hit q
          | 1, hv => cases hv; exact goTup hit q
          | 2, hv => cases hv; exact goTup hit q
          | i + 3, hv => simp at hv
        case turn =>
          intro i v m cm g20 s'' hts2 hv kg20 S20 ⟨q1, q2, q3, q4, q5, q6, q7, q8, q9, q10⟩
          have G20 := G19.keeps kg20
          obtain ⟨U, w, tw, hi, rfl, hU, cw⟩ : ∃ U w tw, i < 3 ∧ v = .ref U ∧ IsTup g20 U [w, Value.int i tw].toArray ∧ IsF (1048576 * n) w (fI corner n share value i pl) := by
            match i, hv with
            | 0, hv => cases hv; exact ⟨U0, w0, _, by decide, rfl, IsTup.keeps hU019 kg20, c0⟩
            | 1, hv => cases hv; exact ⟨U1, w1, _, by decide, rfl, IsTup.keeps hU119 kg20, c1⟩
            | 2, hv => cases hv; exact ⟨U2, w2, _, by decide, rfl, IsTup.keeps hU219 kg20, c2⟩
            | i + 3, hv => simp at hv
          clear S19
          refine apartT a.hh (IsTup.keeps hU S20.keep) rfl rfl ?_
          intro h21 k21
          have S21 := S20.keeps k21
          clear S20
          refine assignInOrder_cons (wpAny_assign_Name ?_)
          walk1
          refine assignInOrder_cons (wpAny_assign_Name ?_)
          walk1
          refine assignInOrder_nil ?_
          rename_i h22 tk22 ht22 S22
          obtain ⟨xw, txw, rfl, htxw, Rw⟩ := cw
          walk_at "mine go"
          refine' use (way_spec ?hG a (by walk_at "mine tok") (pl + corner * n) i n _ _ _ (by omega) (by omega) (by omega) (by omega)) (by walk_at "mine tok") ?_
          case hG => exact G20.keeps S22.keep
          intro y h23 tk23 htk23 k23 hy
          obtain ⟨tway, rfl⟩ := hy
          have S23 := S22.keeps k23
          have wb := way_bd (p := pl + corner * n) (j := i) (show 0 < n by omega)
          walk_at "mine go"
          refine' use (part_spec ?hG a (by walk_at "mine tok") _ n share value _ _ _ _ p (by omega)) (by walk_at "mine tok") ?_
          case hG => exact G20.keeps S23.keep
          intro y h24 tk24 htk24 k24 hy
          obtain ⟨xp, txp, rfl, htxp, Rp⟩ := hy
          have S24 := S23.keeps k24
          rw [← fI_part (by omega) pbd.1 pbd.2] at Rp
          walk_at "mine go"
          · exfalso
            rename_i c
            rw [neF Rw Rp D0 rfl] at c
            cases c
          exact Turn.of S24 ⟨by with_unfolding_all exact q1, by with_unfolding_all exact q2, by with_unfolding_all exact q3, by with_unfolding_all exact q4, by with_unfolding_all exact q5, by with_unfolding_all exact q6, by with_unfolding_all exact q7, by with_unfolding_all exact q8, by with_unfolding_all exact q9, by with_unfolding_all exact q10⟩
        case fin =>
          intro m cm h25 tk25 htk25 S25 ⟨q1, q2, q3, q4, q5, q6, q7, q8, q9, q10⟩
          clear S19
          have hDp19 := stays_list k8 hDp8
          have hDc19 := stays_list k8 hDc8
          obtain ⟨x0', tx0, rfl, htx0, R0⟩ := c0
          obtain ⟨x1', tx1, rfl, htx1, R1⟩ := c1
          obtain ⟨x2', tx2, rfl, htx2, R2⟩ := c2
          have hm := hue_bd (place := pl) (corner := corner) (show 0 < n by omega)
          have Q0 : Rep x0' (colI (hueI pl corner n) 0 n share value) (1048576 * n) := by rw [cfI 0 pl hpm]; exact R0
          have Q1 : Rep x1' (colI (hueI pl corner n) 1 n share value) (1048576 * n) := by rw [cfI 1 pl hpm]; exact R1
          have Q2 : Rep x2' (colI (hueI pl corner n) 2 n share value) (1048576 * n) := by rw [cfI 2 pl hpm]; exact R2
          walk_at "mine go"
          refine' use (rgb_spec ?hG a (by walk_at "mine tok") p (hueI pl corner n) hm.1 hm.2 htx0 htx1 htx2 Q0 Q1 Q2) (by walk_at "mine tok") ?_
          case hG => exact G19.keeps S25.keep
          intro y h26 tk26 htk26 k26 hy
          obtain ⟨Z1, z0, z1, z2, rfl, nZ1, hZ1, e0, e1, e2⟩ := hy
          have S26 := S25.keeps k26
          walk_at "mine go"
          refine' use (hue_spec ?hG a (by walk_at "mine tok") pl corner n _ _ _ p (by omega) hc) (by walk_at "mine tok") ?_
          case hG => exact G19.keeps S26.keep
          intro y h27 tk27 htk27 k27 hyh
          have S27 := S26.keeps k27
          walk_at "mine go"
          refine divI share 1024 a.hh (by walk_at "mine tok") (by decide) p2_1024 (by omega) rfl (by omega) ?_
          intro sx tsx tksx htksx htsx Rs
          walk_at "mine go"
          refine divI value 1024 a.hh (by walk_at "mine tok") (by decide) p2_1024 (by omega) rfl (by omega) ?_
          intro vx tvx tkvx htkvx htvx Rv
          walk_at "mine go"
          refine newT (by simp) ?_
          intro Z2 h28 nZ2 k28 hZ2
          have S28 := S27.keeps k28
          walk_at "mine go"
          refine' tupNe ?hu (Gd.booked (G19.keeps S28.keep)) ?h1 ?h2 p.pn.pos (by decide) (by decide) e0 hyh e1 ⟨_, _, rfl, htsx, Rs⟩ e2 ⟨_, _, rfl, htvx, Rv⟩ ?_
          case hu => have := a.hu; omega
          case h1 => exact IsTup.keeps (IsTup.keeps hZ1 k27) k28
          case h2 => exact hZ2
          clear S25 S26 S27
          walk_at "mine go"
          have fb : ∀ j : Int, ∀ x ∈ xs, 0 ≤ fI corner n share value j x ∧ fI corner n share value j x ≤ 274877906944 := fun j x hx => fI_bd p (xbd x hx).1 (xbd x hx).2
          have pb0 := fb 0 pl hpm
          have pb1 := fb 1 pl hpm
          have pb2 := fb 2 pl hpm
          refine' evCompN S28 a.hh (by walk_at "mine tok") hDc19 (by omega) (fun i y fr => fr = [] ∧ IsF (1048576 * n) y (offI corner n share value pl (xs.getD i 0))) [("red", s.heap.objs.size + 6), ("green", s.heap.objs.size + 7), ("blue", s.heap.objs.size + 8)] ?hclos ?hkind ?hcell ?hnames ?hs ?hcl ?hgo ?hit ?helt ?fin
          walk_at "mine comp"
          case hgo =>
            intro I v i s3 Q E hv hit q
            obtain ⟨x, hx, T, u0, u1, u2, rfl, _⟩ := paired_get hcols i v hv
            exact wpAny_letOwnedTupleGo_listiter hit q
          case hit => intro Q' q; walk1; exact q
          case helt =>
            intro C g' s3 mb i v hts3 hv kq B
            have Gq := G19.keeps kq
            obtain ⟨x, hx, T, u0, u1, u2, rfl, hT, d0, d1, d2⟩ := paired_get hcols i v hv
            have hxm := List.mem_of_getElem? hx
            have hTq : IsTup g' T _ := IsTup.keeps hT (stays_trans k37 (stays_trans kg8 (stays_trans k8 kq)))
            rw [cfI 0 x hxm] at d0
            rw [cfI 1 x hxm] at d1
            rw [cfI 2 x hxm] at d2
            have xb0 := fb 0 x hxm
            have xb1 := fb 1 x hxm
            have xb2 := fb 2 x hxm
            obtain ⟨y0, ty0, rfl, hty0, T0⟩ := d0
            obtain ⟨y1, ty1, rfl, hty1, T1⟩ := d1
            obtain ⟨y2, ty2, rfl, hty2, T2⟩ := d2
            refine apartT a.hh (IsTup.keeps hTq B.keep) rfl rfl ?_
            intro h29 k29
            have B29 := B.keeps k29
            clear B
            refine assignInOrder_cons (wpAny_assign_Name (stB B29 (by walk_at "mine tok") (by walk_at "mine eq") (by walk_at "mine eq") fun h30 tk30 htk30 B30 hsb30 => ?_))
            refine assignInOrder_cons (wpAny_assign_Name (stB B30 (by walk_at "mine tok") (by walk_at "mine eq") (by walk_at "mine eq") fun h31 tk31 htk31 B31 hsb31 => ?_))
            refine assignInOrder_cons (wpAny_assign_Name (stB B31 (by walk_at "mine tok") (by walk_at "mine eq") (by walk_at "mine eq") fun h32 tk32 htk32 B32 hsb32 => ?_))
            refine assignInOrder_nil ?_
            clear B29 B30 B31
            walk_at "mine go"
            have e : xs.getD i 0 = x := by simp [List.getD_eq_getElem?_getD, hx]
            refine ⟨h32, _, _, [], rfl, B32, ⟨rfl, ?_⟩, fun q hq => (nomatch hq)⟩
            rw [e]
            have pD := p.pD
            have R0 : Rep x0' (fI corner n share value 0 pl) (1048576 * n) := R0
            have R1 : Rep x1' (fI corner n share value 1 pl) (1048576 * n) := R1
            have R2 : Rep x2' (fI corner n share value 2 pl) (1048576 * n) := R2
            have A0 := (T0.sub R0 pD (by omega)).abs D0
            have A1 := (T1.sub R1 pD (by omega)).abs D0
            have A2 := (T2.sub R2 pD (by omega)).abs D0
            exact ⟨_, _, rfl, Nat.succ_ne_zero _, (A0.add A1 pD (by omega)).add A2 pD (by omega)⟩
          case fin =>
            intro g29 Do h29 tk29 offs htk29 S29 kg29 hDo hitems
            have hoffs : Paired (IsF (1048576 * n)) offs (xs.map (offI corner n share value pl)) := by
              refine paired_of_get (by rw [hitems.1, List.length_map, hcols.length]) fun i y b hy hb => ?_
              obtain ⟨fr, ⟨rfl, f1⟩, f2⟩ := hitems.get hy
              rw [List.getElem?_map] at hb
              obtain ⟨x, hx, rfl⟩ := Option.map_eq_some_iff.mp hb
              have e : xs.getD i 0 = x := by simp [List.getD_eq_getElem?_getD, hx]
              rw [e] at f1
              exact f1
            have holen : offs.length = vs.length := by rw [hitems.1, hclen]
            have G29 := G19.keeps kg29
            have hDp29 := stays_list kg29 hDp19
            clear S28 hitems
            have ob : ∀ a ∈ xs.map (offI corner n share value pl), 0 ≤ a ∧ a ≤ 824633720832 := by
              intro b hb
              obtain ⟨x, hx, rfl⟩ := List.mem_map.mp hb
              have xb0 := fb 0 x hx
              have xb1 := fb 1 x hx
              have xb2 := fb 2 x hx
              unfold offI
              omega
            have os := sum_bd _ ob
            rw [List.length_map] at os
            have db : ∀ a ∈ xs.map (fun x => ((x - pl).natAbs : Int)), 0 ≤ a ∧ a ≤ 786432 := by
              intro b hb
              obtain ⟨x, hx, rfl⟩ := List.mem_map.mp hb
              have := xbd x hx
              omega
            have ds := sum_bd _ db
            rw [List.length_map] at ds
            have eoff : (xs.map (offI corner n share value pl)).sum = share * value * (xs.map (fun x => ((x - pl).natAbs : Int))).sum := by
              refine sum_mul xs fun x hx => ?_
              exact f_dist p (xbd x hx).1 (xbd x hx).2 pbd.1 pbd.2
            walk_at "mine go"
            refine' sumF p.pD a.hh (by walk_at "mine tok") ?hl hoffs (by omega) (fun b hb => (ob b hb).1) (by omega) ?_
            case hl => exact stays_list S29.keep hDo
            intro xo txo h30 tk30 htk30 k30 Ro
            have S30 := S29.keeps k30
            clear S29
            walk_at "mine go"
            rename_i h31 tk31 ht31 S31
            clear S30
            refine' evCompN S31 a.hh (by walk_at "mine tok") hDp29 (by omega) (fun i y fr => fr = [] ∧ IsI y ((xs.getD i 0 - pl).natAbs : Int)) [("place", s.heap.objs.size + 5)] ?hclos ?hkind ?hcell ?hnames ?hs ?hcl (fun _ _ _ _ _ _ _ _ q => wpAny_pure q) ?hit ?helt ?fin
            walk_at "mine comp"
            case hit => intro Q' q; walk1; exact q
            case helt =>
              intro C g' s3 mb i v hts3 hv kq B
              have Gq := G29.keeps kq
              obtain ⟨x, hx, t, rfl⟩ := paired_get hpp i v hv
              refine wpAny_assign_Name (stB B hts3 (by walk_at "mine eq") (by walk_at "mine eq") fun h4 tk4 htk4 B4 hsb => ?_)
              clear B
              have xb := xbd x (List.mem_of_getElem? hx)
              walk_at "mine go"
              have e : xs.getD i 0 = x := by simp [List.getD_eq_getElem?_getD, hx]
              refine ⟨h4, _, _, [], rfl, B4, ⟨rfl, ?_⟩, fun q hq => (nomatch hq)⟩
              rw [e]
              exact ⟨_, by congr 1; split <;> omega⟩
            case fin =>
              intro g32 Dd h32 tk32 dvs htk32 S32 kg32 hDd hitems
              have hdvs : Paired IsI dvs (xs.map (fun x => ((x - pl).natAbs : Int))) := by
                refine paired_of_get (by rw [hitems.1, List.length_map, hpp.length]) fun i y b hy hb => ?_
                obtain ⟨fr, ⟨rfl, f1⟩, f2⟩ := hitems.get hy
                rw [List.getElem?_map] at hb
                obtain ⟨x, hx, rfl⟩ := Option.map_eq_some_iff.mp hb
                have e : xs.getD i 0 = x := by simp [List.getD_eq_getElem?_getD, hx]
                rw [e] at f1
                exact f1
              have G32 := G29.keeps kg32
              clear S31 hitems
              obtain ⟨DS, hDS⟩ : ∃ DS, DS = (xs.map (fun x => ((x - pl).natAbs : Int))).sum := ⟨_, rfl⟩
              rw [← hDS] at ds eoff
              have sv := mul_bd (a := share) (b := value) (x := 1024) (y := 1024) (by omega) s2 (by omega) v2
              have svd := mul_bd (a := share * value) (b := DS) (x := 1048576) (y := 63 * 786432) (by omega) (by omega) ds.1 (by omega)
              walk_at "mine go"
              refine' sumI a.hh (by walk_at "mine tok") ?hl hdvs (fun b hb => (db b hb).1) (by omega) ?_
              case hl => exact stays_list S32.keep hDd
              rw [← hDS]
              intro tS h33 tk33 htk33 k33
              have S33 := S32.keeps k33
              clear S32
              walk_at "mine go"
              refine divI (share * value * DS) (1048576 * n) a.hh (by walk_at "mine tok") (by omega) p.pD (by omega) rfl (by omega) ?_
              intro xq txq tkq htkq htxq Rq
              walk_at "mine go"
              · exfalso
                rename_i c
                rw [neF Ro Rq D0 eoff] at c
                cases c
              exact Turn.of (S33.less (stays_trans k8 (stays_trans kg29 kg32))) ⟨by with_unfolding_all exact q1, by with_unfolding_all exact q2, by with_unfolding_all exact q3, by with_unfolding_all exact q4, by with_unfolding_all exact q5, by with_unfolding_all exact q6⟩
      | 1, hv =>
        cases hv
        have hpm := medOf_mem (lo := false) x0
        obtain ⟨pl, hpl⟩ : ∃ pl, pl = medOf false xs := ⟨_, rfl⟩
        rw [← hpl] at hpm
        have pbd := xbd pl hpm
        have pwh := xwh pl hpm
        have cfI : ∀ j : Int, ∀ x ∈ xs, colI (hueI x corner n) j n share value = fI corner n share value j x := fun j x hx => col_f p (xwh x hx) (xbd x hx).1 (xbd x hx).2 j
        refine apartT a.hh (IsTup.keeps hT27 (stays_trans kg8 S8.keep)) rfl rfl ?_
        intro h9 k9
        have S9 := S8.keeps k9
        refine assignInOrder_cons (wpAny_assign_Name ?_)
        walk1
        refine assignInOrder_cons (wpAny_assign_Name ?_)
        walk1
        refine assignInOrder_nil ?_
        clear S8 S9
        walk_at "mine go"
        rename_i h10 tk10 ht10 S10
        refine' use (medHi_spec sorts_int ?hG a (by walk_at "mine tok") ?hl hpp (by omega) (by omega)) (by walk_at "mine tok") ?_
        case hG => exact G8.keeps S10.keep
        case hl => exact stays_list S10.keep hDp8
        intro y h11 tk11 htk11 k11 hy
        rw [show medHi xs = pl from hpl.symm] at hy
        obtain ⟨tpl, rfl⟩ := hy
        have S11 := S10.keeps k11
        clear S10
        walk_at "mine go"
        rename_i h12 tk12 ht12 S12
        refine' use (middle_hi (c := fun x j => colI (hueI x corner n) j n share value) (xs := xs) (cols := cols) ?hG a (by walk_at "mine tok") D0 hc ?hl ?hcc (by omega)) (by walk_at "mine tok") ?_
        case hG => exact G8.keeps S12.keep
        case hl => exact stays_list S12.keep hDc8
        case hcc => exact hcols8.mono fun y x h => by (obtain ⟨T, w0, w1, w2, e, hT, r⟩ := h; exact ⟨T, w0, w1, w2, e, IsTup.keeps hT S12.keep, r⟩)
        intro y h13 tk13 htk13 k13 hy
        obtain ⟨M, w0, w1, w2, rfl, nM, hM, c0, c1, c2⟩ := hy
        rw [mid_at (j := 0) p x0 (fun x hx => cfI 0 x hx), show medOf false xs = pl from hpl.symm] at c0
        rw [mid_at (j := 1) p x0 (fun x hx => cfI 1 x hx), show medOf false xs = pl from hpl.symm] at c1
        rw [mid_at (j := 2) p x0 (fun x hx => cfI 2 x hx), show medOf false xs = pl from hpl.symm] at c2
        have S13 := S12.keeps k13
        clear S12
        refine' apartL (vs := [w0, w1, w2]) a.hh ?hl rfl rfl ?_
        case hl => exact hM
        intro h14 k14
        have S14 := S13.keeps k14
        clear S13
        refine assignInOrder_cons (wpAny_assign_Name ?_)
        walk1
        refine assignInOrder_cons (wpAny_assign_Name ?_)
        walk1
        refine assignInOrder_cons (wpAny_assign_Name ?_)
        walk1
        refine assignInOrder_nil ?_
        rename_i h15 tk15 ht15 S15
        clear S14
        walk1
        refine wpAny_For ?_ (fun _ => rfl)
        walk_at "mine go"
        refine newT (by simp) ?_
        intro U0 h16 nU0 k16 hU0
        obtain ⟨g16, S16, kg16, nw16⟩ := S15.grow k16
        have hU016 := isTup_new nU0 hU0 nw16
        have G16 := G8.keeps kg16
        clear nw16 hU0 S15
        walk_at "mine go"
        refine newT (by simp) ?_
        intro U1 h17 nU1 k17 hU1
        obtain ⟨g17, S17, kg17, nw17⟩ := S16.grow k17
        have hU117 := isTup_new nU1 hU1 nw17
        have hU017 := IsTup.keeps hU016 kg17
        have G17 := G16.keeps kg17
        clear S16 nw17 hU1 hU016
        walk_at "mine go"
        refine newT (by simp) ?_
        intro U2 h18 nU2 k18 hU2
        obtain ⟨g18, S18, kg18, nw18⟩ := S17.grow k18
        have hU218 := isTup_new nU2 hU2 nw18
        have hU118 := IsTup.keeps hU117 kg18
        have hU018 := IsTup.keeps hU017 kg18
        have G18 := G17.keeps kg18
        clear S17 nw18 hU2 hU117 hU017
        walk_at "mine go"
        refine newT (by simp) ?_
        intro U3 h19 nU3 k19 hU3
        obtain ⟨g19, S19, kg19, nw19⟩ := S18.grow k19
        have hU319 := isTup_new nU3 hU3 nw19
        have hU219 := IsTup.keeps hU218 kg19
        have hU119 := IsTup.keeps hU118 kg19
        have hU019 := IsTup.keeps hU018 kg19
        have G19 := G18.keeps kg19
        have k8 := stays_trans kg16 (stays_trans kg17 (stays_trans kg18 kg19))
        clear S18 nw19 hU3 hU218 hU118 hU018 kg16 kg17 kg18 kg19
        refine forTup (g := g19) a.hh (by walk_at "mine tok") hU319 (fun i m cm => m "places" = some (.ref Dp) ∧ m "colours" = some (.ref Dc) ∧ cm "corner" = some (.int corner t1) ∧ cm "n" = some (.int n t2) ∧ cm "share" = some (.int share t3) ∧ cm "value" = some (.int value t4) ∧
            cm "place" = some (.int pl tpl) ∧ cm "red" = some w0 ∧ cm "green" = some w1 ∧ cm "blue" = some w2) S19 ?J0 ?hgo ?turn ?fin
        case J0 => exact ⟨by with_unfolding_all exact j1, by with_unfolding_all exact j2, by with_unfolding_all exact j3, by with_unfolding_all exact j4, by with_unfolding_all exact j5, by with_unfolding_all exact j6, by with_unfolding_all rfl, by with_unfolding_all rfl, by with_unfolding_all rfl, by with_unfolding_all rfl⟩
        case hgo =>
          intro I v i s' Q E hv hit q
          match i, hv with
          | 0, hv => cases hv; exact goTup hit q
          | 1, hv => cases hv; exact goTup hit q
          | 2, hv => cases hv; exact goTup hit q
          | i + 3, hv => simp at hv
        case turn =>
          intro i v m cm g20 s'' hts2 hv kg20 S20 ⟨q1, q2, q3, q4, q5, q6, q7, q8, q9, q10⟩
          have G20 := G19.keeps kg20
          obtain ⟨U, w, tw, hi, rfl, hU, cw⟩ : ∃ U w tw, i < 3 ∧ v = .ref U ∧ IsTup g20 U [w, Value.int i tw].toArray ∧ IsF (1048576 * n) w (fI corner n share value i pl) := by
            match i, hv with
            | 0, hv => cases hv; exact ⟨U0, w0, _, by decide, rfl, IsTup.keeps hU019 kg20, c0⟩
            | 1, hv => cases hv; exact ⟨U1, w1, _, by decide, rfl, IsTup.keeps hU119 kg20, c1⟩
            | 2, hv => cases hv; exact ⟨U2, w2, _, by decide, rfl, IsTup.keeps hU219 kg20, c2⟩
            | i + 3, hv => simp at hv
          clear S19
          refine apartT a.hh (IsTup.keeps hU S20.keep) rfl rfl ?_
          intro h21 k21
          have S21 := S20.keeps k21
          clear S20
          refine assignInOrder_cons (wpAny_assign_Name ?_)
          walk1
          refine assignInOrder_cons (wpAny_assign_Name ?_)
          walk1
          refine assignInOrder_nil ?_
          rename_i h22 tk22 ht22 S22
          obtain ⟨xw, txw, rfl, htxw, Rw⟩ := cw
          walk_at "mine go"
          refine' use (way_spec ?hG a (by walk_at "mine tok") (pl + corner * n) i n _ _ _ (by omega) (by omega) (by omega) (by omega)) (by walk_at "mine tok") ?_
          case hG => exact G20.keeps S22.keep
          intro y h23 tk23 htk23 k23 hy
          obtain ⟨tway, rfl⟩ := hy
          have S23 := S22.keeps k23
          have wb := way_bd (p := pl + corner * n) (j := i) (show 0 < n by omega)
          walk_at "mine go"
          refine' use (part_spec ?hG a (by walk_at "mine tok") _ n share value _ _ _ _ p (by omega)) (by walk_at "mine tok") ?_
          case hG => exact G20.keeps S23.keep
          intro y h24 tk24 htk24 k24 hy
          obtain ⟨xp, txp, rfl, htxp, Rp⟩ := hy
          have S24 := S23.keeps k24
          rw [← fI_part (by omega) pbd.1 pbd.2] at Rp
          walk_at "mine go"
          · exfalso
            rename_i c
            rw [neF Rw Rp D0 rfl] at c
            cases c
          exact Turn.of S24 ⟨by with_unfolding_all exact q1, by with_unfolding_all exact q2, by with_unfolding_all exact q3, by with_unfolding_all exact q4, by with_unfolding_all exact q5, by with_unfolding_all exact q6, by with_unfolding_all exact q7, by with_unfolding_all exact q8, by with_unfolding_all exact q9, by with_unfolding_all exact q10⟩
        case fin =>
          intro m cm h25 tk25 htk25 S25 ⟨q1, q2, q3, q4, q5, q6, q7, q8, q9, q10⟩
          clear S19
          have hDp19 := stays_list k8 hDp8
          have hDc19 := stays_list k8 hDc8
          obtain ⟨x0', tx0, rfl, htx0, R0⟩ := c0
          obtain ⟨x1', tx1, rfl, htx1, R1⟩ := c1
          obtain ⟨x2', tx2, rfl, htx2, R2⟩ := c2
          have hm := hue_bd (place := pl) (corner := corner) (show 0 < n by omega)
          have Q0 : Rep x0' (colI (hueI pl corner n) 0 n share value) (1048576 * n) := by rw [cfI 0 pl hpm]; exact R0
          have Q1 : Rep x1' (colI (hueI pl corner n) 1 n share value) (1048576 * n) := by rw [cfI 1 pl hpm]; exact R1
          have Q2 : Rep x2' (colI (hueI pl corner n) 2 n share value) (1048576 * n) := by rw [cfI 2 pl hpm]; exact R2
          walk_at "mine go"
          refine' use (rgb_spec ?hG a (by walk_at "mine tok") p (hueI pl corner n) hm.1 hm.2 htx0 htx1 htx2 Q0 Q1 Q2) (by walk_at "mine tok") ?_
          case hG => exact G19.keeps S25.keep
          intro y h26 tk26 htk26 k26 hy
          obtain ⟨Z1, z0, z1, z2, rfl, nZ1, hZ1, e0, e1, e2⟩ := hy
          have S26 := S25.keeps k26
          walk_at "mine go"
          refine' use (hue_spec ?hG a (by walk_at "mine tok") pl corner n _ _ _ p (by omega) hc) (by walk_at "mine tok") ?_
          case hG => exact G19.keeps S26.keep
          intro y h27 tk27 htk27 k27 hyh
          have S27 := S26.keeps k27
          walk_at "mine go"
          refine divI share 1024 a.hh (by walk_at "mine tok") (by decide) p2_1024 (by omega) rfl (by omega) ?_
          intro sx tsx tksx htksx htsx Rs
          walk_at "mine go"
          refine divI value 1024 a.hh (by walk_at "mine tok") (by decide) p2_1024 (by omega) rfl (by omega) ?_
          intro vx tvx tkvx htkvx htvx Rv
          walk_at "mine go"
          refine newT (by simp) ?_
          intro Z2 h28 nZ2 k28 hZ2
          have S28 := S27.keeps k28
          walk_at "mine go"
          refine' tupNe ?hu (Gd.booked (G19.keeps S28.keep)) ?h1 ?h2 p.pn.pos (by decide) (by decide) e0 hyh e1 ⟨_, _, rfl, htsx, Rs⟩ e2 ⟨_, _, rfl, htvx, Rv⟩ ?_
          case hu => have := a.hu; omega
          case h1 => exact IsTup.keeps (IsTup.keeps hZ1 k27) k28
          case h2 => exact hZ2
          clear S25 S26 S27
          walk_at "mine go"
          have fb : ∀ j : Int, ∀ x ∈ xs, 0 ≤ fI corner n share value j x ∧ fI corner n share value j x ≤ 274877906944 := fun j x hx => fI_bd p (xbd x hx).1 (xbd x hx).2
          have pb0 := fb 0 pl hpm
          have pb1 := fb 1 pl hpm
          have pb2 := fb 2 pl hpm
          refine' evCompN S28 a.hh (by walk_at "mine tok") hDc19 (by omega) (fun i y fr => fr = [] ∧ IsF (1048576 * n) y (offI corner n share value pl (xs.getD i 0))) [("red", s.heap.objs.size + 6), ("green", s.heap.objs.size + 7), ("blue", s.heap.objs.size + 8)] ?hclos ?hkind ?hcell ?hnames ?hs ?hcl ?hgo ?hit ?helt ?fin
          walk_at "mine comp"
          case hgo =>
            intro I v i s3 Q E hv hit q
            obtain ⟨x, hx, T, u0, u1, u2, rfl, _⟩ := paired_get hcols i v hv
            exact wpAny_letOwnedTupleGo_listiter hit q
          case hit => intro Q' q; walk1; exact q
          case helt =>
            intro C g' s3 mb i v hts3 hv kq B
            have Gq := G19.keeps kq
            obtain ⟨x, hx, T, u0, u1, u2, rfl, hT, d0, d1, d2⟩ := paired_get hcols i v hv
            have hxm := List.mem_of_getElem? hx
            have hTq : IsTup g' T _ := IsTup.keeps hT (stays_trans k37 (stays_trans kg8 (stays_trans k8 kq)))
            rw [cfI 0 x hxm] at d0
            rw [cfI 1 x hxm] at d1
            rw [cfI 2 x hxm] at d2
            have xb0 := fb 0 x hxm
            have xb1 := fb 1 x hxm
            have xb2 := fb 2 x hxm
            obtain ⟨y0, ty0, rfl, hty0, T0⟩ := d0
            obtain ⟨y1, ty1, rfl, hty1, T1⟩ := d1
            obtain ⟨y2, ty2, rfl, hty2, T2⟩ := d2
            refine apartT a.hh (IsTup.keeps hTq B.keep) rfl rfl ?_
            intro h29 k29
            have B29 := B.keeps k29
            clear B
            refine assignInOrder_cons (wpAny_assign_Name (stB B29 (by walk_at "mine tok") (by walk_at "mine eq") (by walk_at "mine eq") fun h30 tk30 htk30 B30 hsb30 => ?_))
            refine assignInOrder_cons (wpAny_assign_Name (stB B30 (by walk_at "mine tok") (by walk_at "mine eq") (by walk_at "mine eq") fun h31 tk31 htk31 B31 hsb31 => ?_))
            refine assignInOrder_cons (wpAny_assign_Name (stB B31 (by walk_at "mine tok") (by walk_at "mine eq") (by walk_at "mine eq") fun h32 tk32 htk32 B32 hsb32 => ?_))
            refine assignInOrder_nil ?_
            clear B29 B30 B31
            walk_at "mine go"
            have e : xs.getD i 0 = x := by simp [List.getD_eq_getElem?_getD, hx]
            refine ⟨h32, _, _, [], rfl, B32, ⟨rfl, ?_⟩, fun q hq => (nomatch hq)⟩
            rw [e]
            have pD := p.pD
            have R0 : Rep x0' (fI corner n share value 0 pl) (1048576 * n) := R0
            have R1 : Rep x1' (fI corner n share value 1 pl) (1048576 * n) := R1
            have R2 : Rep x2' (fI corner n share value 2 pl) (1048576 * n) := R2
            have A0 := (T0.sub R0 pD (by omega)).abs D0
            have A1 := (T1.sub R1 pD (by omega)).abs D0
            have A2 := (T2.sub R2 pD (by omega)).abs D0
            exact ⟨_, _, rfl, Nat.succ_ne_zero _, (A0.add A1 pD (by omega)).add A2 pD (by omega)⟩
          case fin =>
            intro g29 Do h29 tk29 offs htk29 S29 kg29 hDo hitems
            have hoffs : Paired (IsF (1048576 * n)) offs (xs.map (offI corner n share value pl)) := by
              refine paired_of_get (by rw [hitems.1, List.length_map, hcols.length]) fun i y b hy hb => ?_
              obtain ⟨fr, ⟨rfl, f1⟩, f2⟩ := hitems.get hy
              rw [List.getElem?_map] at hb
              obtain ⟨x, hx, rfl⟩ := Option.map_eq_some_iff.mp hb
              have e : xs.getD i 0 = x := by simp [List.getD_eq_getElem?_getD, hx]
              rw [e] at f1
              exact f1
            have holen : offs.length = vs.length := by rw [hitems.1, hclen]
            have G29 := G19.keeps kg29
            have hDp29 := stays_list kg29 hDp19
            clear S28 hitems
            have ob : ∀ a ∈ xs.map (offI corner n share value pl), 0 ≤ a ∧ a ≤ 824633720832 := by
              intro b hb
              obtain ⟨x, hx, rfl⟩ := List.mem_map.mp hb
              have xb0 := fb 0 x hx
              have xb1 := fb 1 x hx
              have xb2 := fb 2 x hx
              unfold offI
              omega
            have os := sum_bd _ ob
            rw [List.length_map] at os
            have db : ∀ a ∈ xs.map (fun x => ((x - pl).natAbs : Int)), 0 ≤ a ∧ a ≤ 786432 := by
              intro b hb
              obtain ⟨x, hx, rfl⟩ := List.mem_map.mp hb
              have := xbd x hx
              omega
            have ds := sum_bd _ db
            rw [List.length_map] at ds
            have eoff : (xs.map (offI corner n share value pl)).sum = share * value * (xs.map (fun x => ((x - pl).natAbs : Int))).sum := by
              refine sum_mul xs fun x hx => ?_
              exact f_dist p (xbd x hx).1 (xbd x hx).2 pbd.1 pbd.2
            walk_at "mine go"
            refine' sumF p.pD a.hh (by walk_at "mine tok") ?hl hoffs (by omega) (fun b hb => (ob b hb).1) (by omega) ?_
            case hl => exact stays_list S29.keep hDo
            intro xo txo h30 tk30 htk30 k30 Ro
            have S30 := S29.keeps k30
            clear S29
            walk_at "mine go"
            rename_i h31 tk31 ht31 S31
            clear S30
            refine' evCompN S31 a.hh (by walk_at "mine tok") hDp29 (by omega) (fun i y fr => fr = [] ∧ IsI y ((xs.getD i 0 - pl).natAbs : Int)) [("place", s.heap.objs.size + 5)] ?hclos ?hkind ?hcell ?hnames ?hs ?hcl (fun _ _ _ _ _ _ _ _ q => wpAny_pure q) ?hit ?helt ?fin
            walk_at "mine comp"
            case hit => intro Q' q; walk1; exact q
            case helt =>
              intro C g' s3 mb i v hts3 hv kq B
              have Gq := G29.keeps kq
              obtain ⟨x, hx, t, rfl⟩ := paired_get hpp i v hv
              refine wpAny_assign_Name (stB B hts3 (by walk_at "mine eq") (by walk_at "mine eq") fun h4 tk4 htk4 B4 hsb => ?_)
              clear B
              have xb := xbd x (List.mem_of_getElem? hx)
              walk_at "mine go"
              have e : xs.getD i 0 = x := by simp [List.getD_eq_getElem?_getD, hx]
              refine ⟨h4, _, _, [], rfl, B4, ⟨rfl, ?_⟩, fun q hq => (nomatch hq)⟩
              rw [e]
              exact ⟨_, by congr 1; split <;> omega⟩
            case fin =>
              intro g32 Dd h32 tk32 dvs htk32 S32 kg32 hDd hitems
              have hdvs : Paired IsI dvs (xs.map (fun x => ((x - pl).natAbs : Int))) := by
                refine paired_of_get (by rw [hitems.1, List.length_map, hpp.length]) fun i y b hy hb => ?_
                obtain ⟨fr, ⟨rfl, f1⟩, f2⟩ := hitems.get hy
                rw [List.getElem?_map] at hb
                obtain ⟨x, hx, rfl⟩ := Option.map_eq_some_iff.mp hb
                have e : xs.getD i 0 = x := by simp [List.getD_eq_getElem?_getD, hx]
                rw [e] at f1
                exact f1
              have G32 := G29.keeps kg32
              clear S31 hitems
              obtain ⟨DS, hDS⟩ : ∃ DS, DS = (xs.map (fun x => ((x - pl).natAbs : Int))).sum := ⟨_, rfl⟩
              rw [← hDS] at ds eoff
              have sv := mul_bd (a := share) (b := value) (x := 1024) (y := 1024) (by omega) s2 (by omega) v2
              have svd := mul_bd (a := share * value) (b := DS) (x := 1048576) (y := 63 * 786432) (by omega) (by omega) ds.1 (by omega)
              walk_at "mine go"
              refine' sumI a.hh (by walk_at "mine tok") ?hl hdvs (fun b hb => (db b hb).1) (by omega) ?_
              case hl => exact stays_list S32.keep hDd
              rw [← hDS]
              intro tS h33 tk33 htk33 k33
              have S33 := S32.keeps k33
              clear S32
              walk_at "mine go"
              refine divI (share * value * DS) (1048576 * n) a.hh (by walk_at "mine tok") (by omega) p.pD (by omega) rfl (by omega) ?_
              intro xq txq tkq htkq htxq Rq
              walk_at "mine go"
              · exfalso
                rename_i c
                rw [neF Ro Rq D0 eoff] at c
                cases c
              exact Turn.of (S33.less (stays_trans k8 (stays_trans kg29 kg32))) ⟨by with_unfolding_all exact q1, by with_unfolding_all exact q2, by with_unfolding_all exact q3, by with_unfolding_all exact q4, by with_unfolding_all exact q5, by with_unfolding_all exact q6⟩
end
section
section
variable {prog : Program} {w : World} {A : Around} {E : Value → Shared → Prop} {s : Shared}
theorem addL {l b : Addr} {vs ws : List Value} {Q : Value → Shared → Prop} (hl : s.heap.IsList l vs.toArray) (hb : s.heap.IsList b ws.toArray) (hn : vs.length + ws.length < 1000)
    (h : ∀ D h', s.heap.get? D = none → s.heap.StaysIn h' → h'.IsList D (vs ++ ws).toArray → Q (.ref D) { s with heap := h' }) :
    wpAny (model prog w) A (binaryOp .Add (.ref l) (.ref b)) Q E s := by
  obtain ⟨⟨cls, dd, data, sl⟩, ho, hc, n, hd⟩ := id hl
  obtain ⟨⟨cls2, dd2, data2, sl2⟩, ho2, hc2, n2, hd2⟩ := id hb
  simp only at hc hd hc2 hd2
  subst hc hd hc2 hd2
  have e : vs.toArray ++ ws.toArray = (vs ++ ws).toArray := by simp
  refine concat_meets ⟨_, ho, rfl⟩ ⟨_, ho2, rfl⟩ noFill_list_add seq_list_add PySem.F.slot_list_add PySem.F.entry_list_add (PySem.F.args_list_add_2 _ _) (list_addW l b vs.toArray ws.toArray n n2 dd dd2 sl sl2 (by rw [sizeLine_eq]; simp; omega)) ⟨ho, ho2, ?_⟩
  rw [e]
  exact h _ _ (fresh1 _ (Nat.le_refl _)) (fun b o e => Heap.get?_push_of_some _ e) ⟨_, Heap.get?_push_size _ rfl, rfl, 0, rfl⟩
def Cut (Q : Value → Shared → Prop) (o vl vu : Value) (s₃ : Shared) : Prop :=
  ∃ l vs lo hi, o = .ref l ∧ s₃.heap.IsList l (List.toArray vs) ∧ vs.length < 1000 ∧ IsPart vl lo ∧ IsPart vu hi ∧
    ∀ D h' us, s₃.heap.get? D = none → s₃.heap.StaysIn h' → us = (slicePick (List.toArray vs) lo hi none).toList → h'.IsList D (List.toArray us) → Q (.ref D) { s₃ with heap := h' }
theorem sliceL {env : Env} {value : Expr} {lower upper : Option Expr} {p pos : Pos} {Q : Value → Shared → Prop}
    (h : wpAny (model prog w) A (eval value env) (fun o s₁ => wpAny (model prog w) A (evalPart lower env) (fun vl s₂ => wpAny (model prog w) A (evalPart upper env) (fun vu s₃ => Cut Q o vl vu s₃) E s₂) E s₁) E s)
    (ht : ∀ o r, letTemporaryGo value o r = pure () := by intro _ _; rfl) :
    wpAny (model prog w) A (eval (.Subscript value (.Slice lower upper none p) pos) env) Q E s := by
  refine wpAny_Subscript_list_slice (wpAny_mono h (fun o s₁ h₁ => wpAny_mono h₁ (fun vl s₂ h₂ => wpAny_mono h₂ (fun vu s₃ h₃ => ?_) fun _ _ e => e) fun _ _ e => e) fun _ _ e => e) ht
  obtain ⟨l, vs, lo, hi, rfl, hl, hn, pl, pu, hQ⟩ := h₃
  refine ⟨l, _, lo, hi, rfl, hl, by rw [sizeLine_eq]; simp; omega, pl, pu, hQ _ _ _ (fresh1 _ (Nat.le_succ _)) (fun b o e => Heap.get?_push_of_some _ (Heap.get?_push_of_some _ e)) rfl ⟨{ cls := .type "list", data := .seq (slicePick vs.toArray lo hi none) }, ?_, rfl, 0, by simp⟩⟩
  have e1 := Heap.get?_push_size (s₃.heap.push { cls := .type "slice", data := .fields #[vl, vu, .none] }) (o := { cls := .type "list", data := .seq (slicePick vs.toArray lo hi none) }) rfl
  rw [Heap.size_push] at e1
  exact e1
theorem stL0 {M : Model} {env : Env} {m cm : Str → Option Value} {g : Heap} {x : Str} {v : Value} {Q : Unit → Shared → Prop} (S : St env m cm g s.heap) (hx : env.kindOf x = some .local) (hk : env.scope.kind = .function)
    (h : ∀ h' tk, 1 ≤ tk → St env (fun y => if y = x then some v else m y) cm g h' → Q () { s with heap := h', toks := tk }) : wpAny M A (storeName env x v) Q E s := by
  refine wpAny_storeName_local hx S.ns (fun h' hn hs => h h' _ (Nat.succ_le_succ (Nat.zero_le _)) ⟨⟨hn, fun n c hc => (S.cell n c hc).sameBut hs (S.cls n c hc).2, fun b o e => ?_⟩, S.loc, S.cls, S.apart⟩) (by rw [hk]; rfl)
  exact (hs.2 b (fun q => by rw [q, S.loc] at e; cases e)).trans (S.keep b o e)
theorem pow2 {b : Int} {t u : Tok} {Q : Value → Shared → Prop} (hb : 1 ≤ b) (hb2 : b ≤ 60) (ht : 1 ≤ s.toks) (h : ∀ n t' tk, 1 ≤ tk → n = 2 ^ b.toNat → Q (.int n t') { s with toks := tk }) : wpAny (model prog w) A (binaryOp .Pow (.int 2 t) (.int b u)) Q E s := by
  refine AutoIntOps.pow_4 (by omega) (by simp; omega) (by decide) (by decide) ?_ ?_
  · have e : Builtin.Int.intBits 2 = 2 := by decide
    rw [e]
    unfold Builtin.Int.intTooBig
    rw [decide_eq_true_iff]
    have : (1000 : Int) ≤ bitsLine := by decide
    omega
  · exact h _ _ _ (by omega) rfl
end
theorem enter0 {w : World} {A : Around} {s : Shared} {f : Addr} {fd : FuncData} {oc : Value} {od : Option Addr} {osl : Array (Option Value)} {vals : List Value} {binds : List (Str × Value)} {body : List Stmt} {P : Value → Heap → Prop} {n : Nat} (lb cb : List (Str × Value))
    (G : Gd w s.heap) (a : AOk A (n + 1)) (hK : (Mine.hd.heap_39 w.params).lookup f = some ⟨oc, od, .func fd, osl⟩) (hcd : codeIn (Mine.hd.heap_39 w.params) fd.code fd.qualname = true)
    (hbody : fd.body = .stmts body) (hbind : bindArgs fd ⟨vals, []⟩ = pure binds) (hclo : fd.closure = [])
    (hkind : (binds.all fun y => fd.scope.names.lookup y.1 == some .local || fd.scope.names.lookup y.1 == some .cell) = true)
    (hlb : (binds.filter fun p => fd.scope.names.lookup p.1 == some .local).reverse = lb) (hcb : (binds.filter fun p => fd.scope.names.lookup p.1 != some .local).reverse = cb)
    (h : ∀ A' env h₁ tk, env = callEnvC fd s.heap.objs.size f → AOk A' n → Gd w s.heap → St env (lk lb) (lk cb) s.heap h₁ →
      wpAny (model Pr w) A' (execs body env)
        (fun fl s' => Done s P (match fl with | .ret v => v | _ => .none) s') (fun _ _ => False) { s with heap := h₁, toks := tk })
    (hco : fd.scope.isCoroutine = false) (hgen : fd.scope.isGenerator = false) (hk : fd.scope.kind = .function) :
    codeAny (model Pr w) A (.call (.ref f) ⟨vals, []⟩) (Ret s P) s := by
  obtain ⟨mg, mb, T⟩ := G.t
  refine codeAny_call_function (by have := a.hd; omega) (G.x _ _ hK) rfl hco hgen hbody (codeRec_of G.x hcd) ?_
  rw [hbind, hclo]
  refine wpAny_pure (wpAny_newFunctionEnv_cells hk (kindsX hkind _) fun env he s₁ x => ?_)
  subst he
  refine ⟨T.nolimit.keeps x.toInCall.keep, codeAny_func ?_⟩
  obtain ⟨h₁, tk, rfl, hkeep⟩ := x.done
  have hnew : s.heap.get? s.heap.objs.size = none := by
    cases q : s.heap.get? s.heap.objs.size with
    | none => rfl
    | some o => exact absurd (Heap.lt_size q) (Nat.lt_irrefl _)
  have e1 : (bindL (callEnvC fd s.heap.objs.size f).kindOf binds fun _ => none) = lk lb := by
    funext y
    rw [bindL_eq, Option.or_none]
    show List.lookup y (binds.filter fun p => fd.scope.names.lookup p.1 == some .local).reverse = _
    rw [hlb]; rfl
  have e2 : (bindC (callEnvC fd s.heap.objs.size f).kindOf binds fun _ => none) = lk cb := by
    funext y
    rw [bindC_eq, Option.or_none]
    show List.lookup y (binds.filter fun p => fd.scope.names.lookup p.1 != some .local).reverse = _
    rw [hcb]; rfl
  refine wpAny_mono (h _ _ h₁ tk rfl a.deeper G ⟨⟨e1 ▸ x.toInCall.ns, e2 ▸ x.cell, hkeep⟩, hnew, fun nm c hm => ⟨?_, Nat.ne_of_gt (x.above nm c (mem_of_lookup hm))⟩, x.apart⟩) (fun fl s' hl => ?_) fun _ _ e => e.elim
  · cases q : s.heap.get? c with
    | none => rfl
    | some o => exact absurd (Nat.lt_trans (Heap.lt_size q) (x.above nm c (mem_of_lookup hm))) (Nat.lt_irrefl _)
  · obtain ⟨h', tk', rfl, k, p⟩ := hl
    exact ⟨_, h', tk', rfl, rfl, k, p⟩
theorem cut_len {vs : List Value} : (slicePick vs.toArray (some 1) (some 8) none).toList.length ≤ 8 := by
  rw [slicePick_plain]
  have := clipAt_min (n := vs.toArray.size) (y := 8) (by omega)
  simp only [Option.elim, List.length_take]
  split at this <;> omega
theorem row_of {N : Int} : ∀ (ys : List Value), (∀ y ∈ ys, ∃ x, IsI y x ∧ 0 ≤ x ∧ x < N) → ∃ xs, Paired IsI ys xs ∧ ∀ x ∈ xs, 0 ≤ x ∧ x < N
  | [], _ => ⟨[], .nil, fun x hx => nomatch hx⟩
  | y :: r, h => by
    obtain ⟨x, h1, h2⟩ := h y (List.mem_cons_self ..)
    obtain ⟨xs, h3, h4⟩ := row_of r fun z hz => h z (List.mem_cons_of_mem _ hz)
    refine ⟨x :: xs, .cons h1 h3, fun z hz => ?_⟩
    rcases List.mem_cons.mp hz with e | e
    · rw [e]; exact h2
    · exact h4 z e
theorem items_row {g : Heap} {N : Int} {k : Nat} {ys : List Value} (h : Items g (fun i y fr => fr = [] ∧ ∃ x, IsI y x ∧ 0 ≤ x ∧ x < N) k ys) : ∃ xs, Paired IsI ys xs ∧ ∀ x ∈ xs, 0 ≤ x ∧ x < N := by
  refine row_of ys fun y hy => ?_
  obtain ⟨i, hi⟩ := List.mem_iff_getElem?.mp hy
  obtain ⟨fr, ⟨_, f1⟩, _⟩ := h.get hi
  exact f1
/-- a row of hues as the law hands it on -/
def IsRow (g : Heap) (v : Value) (n : Int) : Prop := ∃ L us row, v = .ref L ∧ g.IsList L (List.toArray us) ∧ Paired IsI us row ∧ (0 < us.length ∧ us.length < 64) ∧ ∀ x ∈ row, 0 ≤ x ∧ x < 8 * n
theorem IsRow.keeps {g g' : Heap} {v : Value} {n : Int} (h : IsRow g v n) (k : g.StaysIn g') : IsRow g' v n := by
  obtain ⟨L, us, row, e, hL, r⟩ := h
  exact ⟨L, us, row, e, stays_list k hL, r⟩
theorem rows_of {n : Int} (hn : 16 ≤ n) {t1 t2 t3 : Tok} {ys : List Value} {xs : List Int} (hp : Paired IsI ys xs) (hx : ∀ x ∈ xs, 0 ≤ x ∧ x < 8 * n) (hy : ys.length ≤ 8) :
    ∃ us row, us = [Value.int 1 t1, .int 3 t2, .int (2 * n - 1) t3] ++ ys ∧ us.length < 20 ∧ 3 ≤ us.length ∧ Paired IsI us row ∧ (∀ x ∈ row, 0 ≤ x ∧ x < 8 * n) ∧ Paired IsI (us.drop 1) (row.drop 1) := by
  refine ⟨_, [1, 3, 2 * n - 1] ++ xs, rfl, by simp; omega, by simp, .cons ⟨_, rfl⟩ (.cons ⟨_, rfl⟩ (.cons ⟨_, rfl⟩ hp)), fun x h => ?_, .cons ⟨_, rfl⟩ (.cons ⟨_, rfl⟩ hp)⟩
  rcases List.mem_append.mp h with h | h
  · simp at h
    omega
  · exact hx x h
theorem from1 {vs : List Value} : slicePick vs.toArray (some 1) none none = (vs.drop 1).toArray := by
  have := slicePick_from' vs.toArray 1
  simpa using this
end
section
theorem viaInt {w : World} {A : Around} {s : Shared} {x : Sem Value} {Q E : Value → Shared → Prop} (h : wpAny (model Pr w) A x (fun v s₁ => ∃ (i : Int) (t : Tok) (tk : Nat), v = .int i t ∧ s₁ = { s with toks := tk } ∧ 1 ≤ tk) (fun _ _ => False) s)
    (q : ∀ (i : Int) (t : Tok) tk, 1 ≤ tk → Q (.int i t) { s with toks := tk }) : wpAny (model Pr w) A x Q E s :=
  wpAny_mono h (fun v s₁ ⟨i, t, tk, e1, e2, ht⟩ => by subst e1 e2; exact q i t tk ht) fun _ _ e => e.elim
theorem fmod_bd (x : Int) {k : Int} (hk : 0 < k) : 0 ≤ x.fmod k ∧ x.fmod k < k := ⟨Int.fmod_nonneg_of_pos _ hk, Int.fmod_lt_of_pos _ hk⟩
theorem prm_of (head : Int) : Prm (2 ^ (head.fmod 15 + 4).toNat) (1024 - (head.fdiv 15).fmod 1024) (1024 - (head.fdiv 15360).fmod 1024) := by
  have h1 := fmod_bd head (k := 15) (by decide)
  have h2 := fmod_bd (head.fdiv 15) (k := 1024) (by decide)
  have h3 := fmod_bd (head.fdiv 15360) (k := 1024) (by decide)
  exact ⟨⟨_, by omega, by omega, rfl⟩, by omega, by omega, by omega, by omega⟩
local macro_rules | `(tactic| walk_at "binaryOp Pow int int") => `(tactic| (refine pow2 ?hp1 ?hp2 (by walk_at "mine tok") ?_; (case hp1 => omega); (case hp2 => omega); intro n t' tk' ht' hn'))
theorem law_spec {w : World} {A : Around} {s : Shared} {k : Nat} (G : Gd w s.heap) (a : AOk A (k + 4)) {l : Addr} {vs : List Value} {ns : List Int}
    (hl : s.heap.IsList l vs.toArray) (hi : IntsAre vs ns) (hlen : vs.length < 64) :
   codeAny (model Pr w) A (.call (.ref 103) ⟨[.ref l], []⟩) (Ret s fun v _ => v = .bool true) s := by
  walk_at "mine fill"
  refine' enter0 [("script", .ref l)] [] ?G ?a ?hK ?hcd ?hbody ?hbind ?hclo ?hkind ?hlb ?hcb ?h ?hco ?hgen ?hk
  (case G => assumption); (case a => assumption); (case hK => k_is); (case hcd => k_is); (case hbody => exact rfl); (case hbind => exact rfl); (case hclo => exact rfl); (case hkind => exact rfl); (case hlb => with_unfolding_all rfl); (case hcb => with_unfolding_all rfl); (case hco => exact rfl); (case hgen => exact rfl); (case hk => exact rfl)
  clear a G
  intro A env h₁ tk hE a G S
  k_fold
  have hp := ints_paired hi
  walk1
  walk1
  refine viaInt ?_ ?_
  · walk_at "mine go"
    refine wpAny_truthy_list (stays_list S.keep hl) (by simp; omega) ?_
    dsimp only
    split
    · rename_i hne
      have h0 : 0 < vs.length := by
        cases vs with
        | nil => simp at hne
        | cons a r => simp
      walk_at "mine go"
      refine itemL (stays_list S.keep hl) (by decide) (by omega) (by omega) ?_
      intro v hv
      obtain ⟨x, hx, t, rfl⟩ := paired_get hp _ _ hv
      exact ⟨_, _, _, rfl, rfl, by dsimp only; omega⟩
    · walk_at "mine go"
  intro head thead tk1 ht1
  have hm15 := fmod_bd head (k := 15) (by decide)
  walk_at "mine go"
  rename_i n tn tkn htn hn _ _ _ _ _ _ _ _ _ _ _ S1
  have p : Prm n (1024 - (head.fdiv 15).fmod 1024) (1024 - (head.fdiv 15360).fmod 1024) := by rw [hn]; exact prm_of head
  clear hn hm15
  have n1 := p.n16
  have n2 := p.n18
  refine newL (by simp) ?_
  intro D0 h2 nD0 k2 hD0
  obtain ⟨g2, S2, kg2, nw2⟩ := S1.grow k2
  have hD02 := isList_new nD0 hD0 nw2
  have G2 := G.keeps kg2
  have hl2 := stays_list kg2 hl
  clear nw2 hD0 S1
  refine' evComp a.hh (fun i y fr => fr = [] ∧ ∃ x, IsI y x ∧ 0 ≤ x ∧ x < 8 * n) (cl := [("n", s.heap.objs.size + 1)]) ?hclos ?hkind ?hcell ?hnames ?hs (hcl_of ?hcl) ?h
  walk_at "mine comp"
  case h =>
    refine sliceL ?_ (ht := fun _ _ => by with_unfolding_all rfl)
    walk_at "mine go"
    refine ⟨l, vs, _, _, rfl, stays_list S2.keep hl2, by omega, .int _ _, .int _ _, ?_⟩
    intro D1 h3 us nD1 k3 hus hD1
    have S3 := S2.keeps k3
    have hpu : Paired IsI us _ := ints_paired (by rw [hus]; exact slice_ints_plain hi 1 8)
    have hul : us.length ≤ 8 := by rw [hus]; exact cut_len
    refine ⟨D1, us, rfl, hD1, by omega, by walk_at "mine tok", S3, (fun _ _ _ _ _ _ _ _ q => wpAny_pure q), ?helt, ?fin⟩
    case helt =>
      intro C g' s' mb i v hts hv kq kg B
      obtain ⟨x, hx, t, rfl⟩ := paired_get hpu i v hv
      refine wpAny_assign_Name (stB B hts (by walk_at "mine eq") (by walk_at "mine eq") fun h4 tk4 htk4 B4 hsb => ?_)
      clear B
      walk_at "mine go"
      have hb := fmod_bd x (k := 8 * n) (by omega)
      exact ⟨h4, _, _, [], rfl, B4, ⟨rfl, _, ⟨_, rfl⟩, hb.1, hb.2⟩, fun q hq => (nomatch hq)⟩
    case fin =>
      intro g4 D2 h4 tk4 ys htk4 S4 kg4 nD2 hD2 hitems
      have hyl : ys.length ≤ 8 := by rw [hitems.1]; exact hul
      obtain ⟨xs, hxs, hxb⟩ := items_row hitems
      clear S3 hitems
      have G4 := G2.keeps kg4
      refine' addL ?h1 ?h2 ?hn ?_
      case h1 => exact stays_list S4.keep (stays_list kg4 hD02)
      case h2 => exact stays_list S4.keep hD2
      case hn => simp only [List.length_cons, List.length_nil]; omega
      intro D h5 nD k5 hD
      obtain ⟨rs, row, hrs, hr1, hr2, hr3, hr4, hr5⟩ := rows_of n1 hxs hxb hyl
      rw [← hrs] at hD
      obtain ⟨g5, S5, kg5, nw5⟩ := S4.grow k5
      have hD5 := isList_new nD hD nw5
      have G5 := G4.keeps kg5
      clear S4 nw5 hD
      walk_at "mine go"
      rename_i h6 tk6 ht6 S6
      refine wpAny_For ?_ (fun _ => rfl)
      walk1
      walk1
      walk1
      walk1
      refine sliceL ?_ (ht := fun _ _ => by with_unfolding_all rfl)
      walk_at "mine go"
      refine ⟨D, rs, _, _, rfl, stays_list S6.keep hD5, by omega, .int _ _, .none, ?_⟩
      intro D7 h7 us nD7 k7 hus hD7
      rw [from1] at hus
      have hus : us = rs.drop 1 := by rw [hus]
      obtain ⟨g7, S7, kg7, nw7⟩ := S6.grow k7
      have hD77 := isList_new nD7 hD7 nw7
      rw [hus] at hD77
      have hD57 := stays_list kg7 hD5
      have G7 := G5.keeps kg7
      clear S6 nw7 hD7 hus
      walk_at "mine go"
      refine newT (by simp) ?_
      intro T h8 nT k8 hT
      obtain ⟨g8, S8, kg8, nw8⟩ := S7.grow k8
      have hT8 := isTup_new nT hT nw8
      have G8 := G7.keeps kg8
      have R1 : IsRow g8 (.ref D) n := ⟨D, rs, row, rfl, stays_list kg8 hD57, hr3, ⟨by omega, by omega⟩, hr4⟩
      have R2 : IsRow g8 (.ref D7) n := ⟨D7, rs.drop 1, row.drop 1, rfl, stays_list kg8 hD77, hr5, ⟨by rw [List.length_drop]; omega, by rw [List.length_drop]; omega⟩, fun x hx => hr4 x (List.mem_of_mem_drop hx)⟩
      have kAll := stays_trans kg2 (stays_trans kg4 (stays_trans kg5 (stays_trans kg7 kg8)))
      clear S7 nw8 hT hD77 hD57 hr5 hr4 hr3
      refine forTup (g := g8) a.hh (by walk_at "mine tok") hT8 (fun i m cm => (∃ t, m "share" = some (.int (1024 - (head.fdiv 15).fmod 1024) t)) ∧ (∃ t, m "value" = some (.int (1024 - (head.fdiv 15360).fmod 1024) t)) ∧ cm "n" = some (.int n tn)) S8 ?J0 ?hgo ?turn ?fin
      case J0 => exact ⟨⟨_, by with_unfolding_all rfl⟩, ⟨_, by with_unfolding_all rfl⟩, by with_unfolding_all rfl⟩
      case hgo => exact (fun _ _ _ _ _ _ _ _ q => wpAny_pure q)
      case fin =>
        intro m cm h tk htk S j
        walk_at "mine go"
        exact Done.of S kAll rfl
      case turn =>
        intro i v m cm g9 s' hts hv kg9 S9 ⟨⟨ts, j1⟩, ⟨tv, j2⟩, j3⟩
        have G9 := G8.keeps kg9
        have R : IsRow g9 v n := by
          match i, hv with
          | 0, hv => cases hv; exact R1.keeps kg9
          | 1, hv => cases hv; exact R2.keeps kg9
          | i + 2, hv => simp at hv
        obtain ⟨L, us, row, rfl, hL, hpr, hlr, hrr⟩ := R
        clear S8 R1 R2
        refine wpAny_assign_Name ?_
        walk1
        rename_i h10 tk10 ht10 S10
        clear S9
        walk_at "mine go"
        refine' use (wheel_spec ?hG a (by walk_at "mine tok") p ?hl hpr hlr hrr) (by walk_at "mine tok") ?_
        case hG => exact G9.keeps S10.keep
        case hl => exact stays_list S10.keep hL
        intro y h11 tk11 htk11 k11 hy
        subst hy
        have S11 := S10.keeps k11
        clear S10
        walk_at "mine go"
        refine forRange (g := g9) a.hh (by walk_at "mine tok") (k := 6) (by decide) [] (fun i m cm h => m "row" = some (.ref L) ∧ m "share" = some (.int (1024 - (head.fdiv 15).fmod 1024) ts) ∧ m "value" = some (.int (1024 - (head.fdiv 15360).fmod 1024) tv) ∧ cm "n" = some (.int n tn)) (fun _ _ _ _ _ _ _ _ j => j) (by simp) S11 ?J0 ?hit (fun _ => rfl) (fun _ _ => rfl) ?turn ?fin
        case J0 => intro h k; exact ⟨by with_unfolding_all rfl, by with_unfolding_all exact j1, by with_unfolding_all exact j2, by with_unfolding_all exact j3⟩
        case hit =>
          intro Q' q
          walk_at "mine go"
          refine call_range_1 ?_
          exact q _ _ _ _ _ _ (by omega) (fun b o e => Heap.get?_push_of_some _ e) (fresh1 _ (Nat.le_refl _)) (IsRange.new _ 0 6 1 _ _ _)
        case fin =>
          intro m cm h tk htk S ⟨q1, q2, q3, q4⟩
          walk_at "mine go"
          exact Turn.of S ⟨⟨ts, q2⟩, ⟨tv, q3⟩, q4⟩
        case turn =>
          intro c tc m cm g12 s2 hts2 hc kg12 _ S12 ⟨q1, q2, q3, q4⟩
          have G12 := G9.keeps kg12
          have hL12 := stays_list kg12 hL
          clear S11
          refine wpAny_assign_Name ?_
          walk1
          rename_i h13 tk13 ht13 S13
          clear S12
          walk_at "mine go"
          refine' use (half_spec ?hG a (by walk_at "mine tok") p ?hl hpr hlr hrr ⟨by omega, by omega⟩) (by walk_at "mine tok") ?_
          case hG => exact G12.keeps S13.keep
          case hl => exact stays_list S13.keep hL12
          intro y h14 tk14 htk14 k14 hy
          subst hy
          have S14 := S13.keeps k14
          clear S13
          walk_at "mine go"
          exact Turn.of S14 ⟨by with_unfolding_all exact q1, by with_unfolding_all exact q2, by with_unfolding_all exact q3, by with_unfolding_all exact q4⟩
end
end Mine
theorem PySem.Challenge.cw_mq0141_01_holds : PySem.Challenge.rw_mq0141_01.Holds := by
  refine Mine.hd ?_
  k_fill
  intro w s₀ s₁ mg mb G Y fa o pm cd doc dV kV ho hd hcd hD hmg hg args vals as hpre hlay hrd hwl hlo
  have KX := kIn_of Y
  have X := (Ground.X G).1
  have V := (Ground.X G).2
  clear hd hD hcd
  refine Ground.open G ?_
  intro T B D TE TW
  try (refine guard_noD D (by decide +kernel) ?_; clear D)
  have e := mg_of KX T.g (n := "law") (v := .ref 103) (by k_is)
  have e2 := Option.some.inj (hmg.symm.trans e)
  injection e2 with e2
  subst e2
  clear e hmg ho
  wrow_args hpre hlay hrd hwl hlo
  all_goals (
    first | refine callC_kw (enter_call ?_) | refine enter_call ?_ | refine callC_kw (enter_callW ?_) | refine enter_callW ?_ | w_how
    w_top on
    try refine codeAny_mono ?_ (fun _ _ g => GoodW.toG g))
  rename_i ns _ _ l vs _ hL _ _ _ hI _ hlen _
  have hlen' : vs.length < 64 := by rw [hI.length]; omega
  refine codeAny_mono (Mine.law_spec (k := 0) ⟨KX, _, _, topRead_of T⟩ ⟨rfl, by decide, by decide⟩ hL hI hlen') ?_
  rintro r s' ⟨v, h', tk, rfl, rfl, k, rfl⟩
  refine ⟨.inl ⟨_, .bool true, [], rfl, fun _ => rfl, .bool _, ?_, fun _ => ⟨List.nodup_nil, fun a ha => nomatch ha⟩⟩, k, rfl, hg⟩
  first
    | exact rfl
    | with_unfolding_all rfl
    | (simp; done)
