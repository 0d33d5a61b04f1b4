import PyProof.Rows.All
import Wide.All
import OpenK.AllK
import Wide.FinOn
import PySem.Challenge.RW_pe0158_01
section
open PySem PySem.W PyProof.Rows
set_option Elab.async false
set_option maxRecDepth 100000
set_option maxHeartbeats 8000000
namespace Mine
open_top hd for PySem.Challenge.rw_pe0158_01

end Mine
end
local macro_rules | `(tactic| walk_at $s:str) => `(tactic| k_extra $s)
local macro_rules | `(tactic| omega) => `(tactic| first | lia | omega +splitMinMax)
section
open PySem PySem.W PyProof.Rows PySem.Calls
set_option Elab.async false
set_option maxRecDepth 100000
namespace Mine

noncomputable abbrev PG : Program := PySem.Challenge.rw_pe0158_01.row.prog
noncomputable abbrev MM (w : World) : Model := model PG w

noncomputable abbrev amb (dp un : Nat) (gd : Option (List Code)) (envs : List Env) : Around := { handled := none, depth := dp, frames := some envs, guards := gd, units := un }

structure Ok (w : World) (base : Heap) (envs : List Env) (h : Heap) : Prop where
  stays : base.StaysIn h
  frames : h.FunFrames base envs
  K : (hd.heap_39 w.params).In h
  top : ∃ mean mg mb, Top hd.view_39 (looseW hd.view_39 []) mean mg mb h

theorem Ok.keeps {w : World} {base h h' : Heap} {envs : List Env} (O : Ok w base envs h) (st : h.StaysIn h') : Ok w base envs h' :=
  ⟨fun b o e => st b o (O.stays b o e), O.frames.of_keeps fun b o e _ => ⟨o, st b o e, rfl⟩, O.K.keeps st, let ⟨a, b, c, T⟩ := O.top; ⟨a, b, c, T.keeps st⟩⟩

noncomputable def Tells (k : Nat) (w : World) (f : Addr) (vs : List Value) (pre : Heap → Prop) (post : Heap → Value → Heap → Prop) : Prop :=
  ∀ (dp un : Nat) (gd : Option (List Code)) (envs : List Env) (base : Heap) (s : Shared) (Q E : Value → Shared → Prop),
    Ok w base envs s.heap → dp + k < 1000 → un + 16 * k < 9900 → pre s.heap →
    (∀ r h' tk', s.heap.StaysIn h' → post s.heap r h' → Q r { s with heap := h', toks := tk' }) →
    wpAny (MM w) (amb dp un gd envs) (call (.ref f) vs) Q E s

noncomputable def Done (s : Shared) (post : Heap → Value → Heap → Prop) (fl : Flow) (s' : Shared) : Prop :=
  ∃ h' tk', s' = { s with heap := h', toks := tk' } ∧ s.heap.StaysIn h' ∧ post s.heap (match fl with | .ret v => v | _ => .none) h'
noncomputable def NoE (_ : Value) (_ : Shared) : Prop := False

theorem done_ {s : Shared} {post : Heap → Value → Heap → Prop} {v : Value} {h' : Heap} {tk' : Nat} {L : Addr} {m : Str → Option Value} (F : Fr s.heap L h' m) (hp : post s.heap v h') :
    Done s post (.ret v) { s with heap := h', toks := tk' } := ⟨h', tk', rfl, F.keep, hp⟩

theorem tells_of {k : Nat} {w : World} {name qual : Str} {params : Arguments} {body : List Stmt} {scope : Scope} {dV kV doc pm cdv ct oc : Value} {an od : Option Addr} {osl : Array (Option Value)} {f : Addr} {vs : List Value} {binds : List (Str × Value)}
    {pre : Heap → Prop} {post : Heap → Value → Heap → Prop}
    (ho : (hd.heap_39 w.params).lookup f = some ⟨oc, od, .func (fnOf name qual params body scope dV kV doc pm an cdv ct), osl⟩) (hcd : codeIn (hd.heap_39 w.params) cdv qual = true)
    (hbind : ∀ s, BindsTo s (fnOf name qual params body scope dV kV doc pm an cdv ct) ⟨vs, []⟩ binds) (hloc : ∀ y ∈ binds, scope.names.lookup y.1 = some .local)
    (hco : scope.isCoroutine = false) (hgen : scope.isGenerator = false) (hk : scope.kind = .function)
    (hcell : ∀ x ∈ scope.names, x.2 ≠ .cell)
    (h : ∀ (dp un : Nat) (gd : Option (List Code)) (envs : List Env) (base : Heap) (s : Shared) L h₁ tk mean mg mb, dp + k < 1000 → un + 16 * k < 9900 → pre s.heap →
      Below (amb dp un gd envs) base envs s.heap → Fr s.heap L h₁ (fun y => binds.reverse.lookup y) → News s.heap L h₁ [] → (hd.heap_39 w.params).In s.heap → Top hd.view_39 (looseW hd.view_39 []) mean mg mb s.heap →
      wpAny (MM w) ((amb dp un gd envs).deeper (envOf qual scope L f cdv)) (execs body (envOf qual scope L f cdv)) (Done s post) NoE { s with heap := h₁, toks := tk }) :
    Tells k w f vs pre post := by
  intro dp un gd envs base s Q E O hroom hun hp hret
  obtain ⟨mean, mg, mb, T⟩ := O.top
  refine wpAny_call (codeAny_call_def (fd := fnOf name qual params body scope dV kV doc pm an cdv ct) (body := body) (binds := binds) (by show dp < 1000; omega) (O.K _ _ ho) rfl T.nolimit (codeRec_of O.K hcd) rfl (hbind s) hcell hloc (fun h₁ hns hk₁ => ?_) hco hgen hk)
  refine wpAny_mono (h dp un gd envs base s _ h₁ _ mean mg mb hroom hun hp ⟨rfl, O.stays, O.frames⟩ ⟨hns, hk₁, Nat.le_refl _⟩ News.nil O.K T) (fun fl s' x => ?_) fun _ _ x => x.elim
  obtain ⟨h', tk', rfl, st, hq⟩ := x
  exact hret _ h' tk' st hq

theorem call_T {k dp un : Nat} {gd : Option (List Code)} {outer : List Env} {w : World} {f : Addr} {vs : List Value} {pre : Heap → Prop} {post : Heap → Value → Heap → Prop} {A₀ A : Around} {base h₀ : Heap} {s : Shared} {L : Addr} {m : Str → Option Value} {news : List (Addr × Obj)}
    {mean : ExcName → Option Value} {mg mb : Str → Option Value} {env : Env} {Q E : Value → Shared → Prop}
    (C : Tells k w f vs pre post) (B : Below A₀ base outer h₀) (F : Fr h₀ L s.heap m) (N : News h₀ L s.heap news) (X : (hd.heap_39 w.params).In h₀) (T : Top hd.view_39 (looseW hd.view_39 []) mean mg mb h₀)
    (hA : A = amb dp un gd (env :: outer)) (hf : env.frame = some L) (hke : env.scope.kind = .function) (hd : dp + k < 1000) (hu : un + 16 * k < 9900) (hp : pre s.heap)
    (h : ∀ r h' tk', Fr h₀ L h' m → News h₀ L h' news → s.heap.StaysIn h' → post s.heap r h' → Q r { s with heap := h', toks := tk' }) :
    wpAny (MM w) A (call (.ref f) vs) Q E s := by
  subst hA
  have B' := pushX B F hf hke
  refine C dp un gd (env :: outer) base s Q E ⟨B'.stays, B'.frames, X.keeps F.keep, mean, mg, mb, T.keeps F.keep⟩ hd hu hp fun r h' tk' st hq => ?_
  exact h r h' tk' (F.grownK st) (N.grown st) st hq

end Mine
end
section
open PySem PySem.W PyProof.Rows PySem.Calls
set_option Elab.async false
set_option maxRecDepth 100000
namespace Mine
theorem tells_ofC {k : Nat} {w : World} {name qual : Str} {params : Arguments} {body : List Stmt} {scope : Scope} {dV kV doc pm cdv ct oc : Value} {an od : Option Addr} {osl : Array (Option Value)} {f : Addr} {vs : List Value} {binds : List (Str × Value)}
    {pre : Heap → Prop} {post : Heap → Value → Heap → Prop}
    (ho : (hd.heap_39 w.params).lookup f = some ⟨oc, od, .func (fnOf name qual params body scope dV kV doc pm an cdv ct), osl⟩) (hcd : codeIn (hd.heap_39 w.params) cdv qual = true)
    (hbind : ∀ s, BindsTo s (fnOf name qual params body scope dV kV doc pm an cdv ct) ⟨vs, []⟩ binds)
    (hkind : (binds.all fun y => scope.names.lookup y.1 == some .local || scope.names.lookup y.1 == some .cell) = true)
    (hnd : ((cellsFrom 0 scope.names []).map (·.1)).Nodup)
    (hco : scope.isCoroutine = false) (hgen : scope.isGenerator = false) (hk : scope.kind = .function)
    (h : ∀ (dp un : Nat) (gd : Option (List Code)) (envs : List Env) (base : Heap) (s : Shared) L h₁ tk cells mean mg mb, dp + k < 1000 → un + 16 * k < 9900 → pre s.heap →
      Below (amb dp un gd envs) base envs s.heap → Fr s.heap L h₁ (bindL (envOfC qual scope L f cdv).kindOf binds fun _ => none) → News s.heap L h₁ cells →
      CellsAre (bindC (envOfC qual scope L f cdv).kindOf binds fun _ => none) (cellsFrom (L + 1) scope.names []) cells →
      (hd.heap_39 w.params).In s.heap → Top hd.view_39 (looseW hd.view_39 []) mean mg mb s.heap →
      wpAny (MM w) ((amb dp un gd envs).deeper (envOfC qual scope L f cdv)) (execs body (envOfC qual scope L f cdv)) (Done s post) NoE { s with heap := h₁, toks := tk }) :
    Tells k w f vs pre post := by
  intro dp un gd envs base s Q E O hroom hun hp hret
  obtain ⟨mean, mg, mb, T⟩ := O.top
  refine wpAny_call (codeAny_call_function (fd := fnOf name qual params body scope dV kV doc pm an cdv ct) (body := body) (by show dp < 1000; omega) (O.K _ _ ho) rfl hco hgen rfl (codeRec_of O.K hcd) (hbind s _ _ _ _ ?_))
  refine wpAny_newFunctionEnv_cells hk (kindsX hkind _) fun env' he s' x => ?_
  subst he
  refine ⟨T.nolimit.keeps x.toInCall.keep, codeAny_func ?_⟩
  obtain ⟨h₁, tk, rfl, _⟩ := x.done
  have hk₁ := x.toInCall.keep
  obtain ⟨cells, NC, Y⟩ := Cl.news (h₀ := s.heap) (Nat.le_refl _) fun n c hm => ⟨x.cell n c (lookup_of_mem_nodup (cellsFrom_names scope.names 0 (s.heap.objs.size + 1) [] [] rfl ▸ hnd) hm), x.above n c hm⟩
  refine wpAny_mono (h dp un gd envs base s s.heap.objs.size h₁ tk cells mean mg mb hroom hun hp ⟨rfl, O.stays, O.frames⟩ ⟨x.toInCall.ns, hk₁, Nat.le_refl _⟩ NC Y O.K T) (fun fl s' x => ?_) fun _ _ x => x.elim
  obtain ⟨h', tk', rfl, st, hq⟩ := x
  exact hret _ h' tk' st hq
end Mine
end
section
open PySem PySem.W PyProof.Rows PySem.Calls
set_option Elab.async false
set_option maxRecDepth 100000
namespace Mine
noncomputable def SeqC (M : Model) (A : Around) (rest : List Stmt) (env : Env) (Q : Flow → Shared → Prop) (E : Value → Shared → Prop) (f : Flow) (s : Shared) : Prop :=
  match f with | .next => wpAny M A (execs rest env) Q E s | f => Q f s
theorem exe_cons {M : Model} {A : Around} {E : Value → Shared → Prop} {s : Shared} {env : Env} {st : Stmt} {rest : List Stmt} {Q : Flow → Shared → Prop}
    (h : let q := SeqC M A rest env Q E; wpAny M A (exec st env) q E s) : wpAny M A (execs (st :: rest) env) Q E s :=
  wpAny_execs_cons (wpAny_mono h (fun f s' x => by cases f <;> exact x) fun _ _ x => x)
theorem seqC_next {M : Model} {A : Around} {E : Value → Shared → Prop} {s : Shared} {env : Env} {rest : List Stmt} {Q : Flow → Shared → Prop} (h : wpAny M A (execs rest env) Q E s) : SeqC M A rest env Q E .next s := h
theorem seqC_ret {M : Model} {A : Around} {E : Value → Shared → Prop} {s : Shared} {env : Env} {rest : List Stmt} {v : Value} {Q : Flow → Shared → Prop} (h : Q (.ret v) s) : SeqC M A rest env Q E (.ret v) s := h

section
variable {M : Model} {A : Around} {E : Value → Shared → Prop} {s₀ : Shared} {H h₀ : Heap} {L a : Addr} {T : Nat} {m : Str → Option Value} {cn : Str} {cs : Scope} {ccd : Value} {cl : List (Str × Addr)}
  {x : Str} {v : Value} {i : Int} {t : Tok} {z : Str} {Q : Unit → Shared → Prop} {news : List (Addr × Obj)}
theorem store_T (F : Fr h₀ L H m) (N : News h₀ L H news)
    (h : ∀ h' tk', let m' := fun y => if y = x then some v else m y; Fr h₀ L h' m' → News h₀ L h' news → Q () { s₀ with heap := h', toks := tk' })
    (hk : cs.kind = .function) (hx : (envX cn cs L a ccd cl).kindOf x = some .local) : wpAny M A (storeName (envX cn cs L a ccd cl) x v) Q E { s₀ with heap := H, toks := T } :=
  storeX_L F N (fun h' F' N' => h h' _ F' N') hk hx
theorem store_I (F : Fr h₀ L H m) (N : News h₀ L H news)
    (h : ∀ h' tk' t', let m' := fun y => if y = x then some (.int i t') else m y; Fr h₀ L h' m' → News h₀ L h' news → Q () { s₀ with heap := h', toks := tk' })
    (hk : cs.kind = .function) (hx : (envX cn cs L a ccd cl).kindOf x = some .local) : wpAny M A (storeName (envX cn cs L a ccd cl) x (.int i t)) Q E { s₀ with heap := H, toks := T } :=
  storeX_L F N (fun h' F' N' => h h' _ _ F' N') hk hx
theorem store_S (F : Fr h₀ L H m) (N : News h₀ L H news)
    (h : ∀ h' tk' t', let m' := fun y => if y = x then some (.str z t') else m y; Fr h₀ L h' m' → News h₀ L h' news → Q () { s₀ with heap := h', toks := tk' })
    (hk : cs.kind = .function) (hx : (envX cn cs L a ccd cl).kindOf x = some .local) : wpAny M A (storeName (envX cn cs L a ccd cl) x (.str z t)) Q E { s₀ with heap := H, toks := T } :=
  storeX_L F N (fun h' F' N' => h h' _ _ F' N') hk hx
end

theorem tells_L {k : Nat} {w : World} {name qual : Str} {params : Arguments} {body : List Stmt} {scope : Scope} {dV kV doc pm cdv ct oc : Value} {an od : Option Addr} {osl : Array (Option Value)} {f : Addr} {vs : List Value} {binds : List (Str × Value)}
    {pre : Heap → Prop} {post : Heap → Value → Heap → Prop}
    (ho : (hd.heap_39 w.params).lookup f = some ⟨oc, od, .func (fnOf name qual params body scope dV kV doc pm an cdv ct), osl⟩) (hcd : codeIn (hd.heap_39 w.params) cdv qual = true)
    (hbind : ∀ s, BindsTo s (fnOf name qual params body scope dV kV doc pm an cdv ct) ⟨vs, []⟩ binds) (hloc : ∀ y ∈ binds, scope.names.lookup y.1 = some .local)
    (hco : scope.isCoroutine = false) (hgen : scope.isGenerator = false) (hk : scope.kind = .function)
    (hcell : ∀ x ∈ scope.names, x.2 ≠ .cell)
    (h : ∀ (dp un : Nat) (gd : Option (List Code)) (envs : List Env) (base : Heap) (s : Shared) L h₁ tk mean mg mb, dp + k < 1000 → un + 16 * k < 9900 → pre s.heap →
      Below (amb dp un gd envs) base envs s.heap → let m9 := fun y => binds.reverse.lookup y; Fr s.heap L h₁ m9 → News s.heap L h₁ [] → (hd.heap_39 w.params).In s.heap → Top hd.view_39 (looseW hd.view_39 []) mean mg mb s.heap →
      let M9 := MM w; let env9 := envOf qual scope L f cdv; let A9 := (amb dp un gd envs).deeper env9; let T9 := Done s post
      wpAny M9 A9 (execs body env9) T9 NoE { s with heap := h₁, toks := tk }) :
    Tells k w f vs pre post := tells_of ho hcd hbind hloc hco hgen hk hcell h
theorem name_L {M : Model} {A : Around} {E : Value → Shared → Prop} {s : Shared} {h₀ : Heap} {L a : Addr} {m : Str → Option Value} {cn : Str} {cs : Scope} {ccd : Value} {cl : List (Str × Addr)} {x : Str} {pos : Pos} {v : Value} {Q : Value → Shared → Prop}
    (F : Fr h₀ L s.heap m) (hv : some v = m x) (h : Q v s) (hk : cs.kind = .function) (hx : (envX cn cs L a ccd cl).kindOf x = some .local) (hd : (x == ("__debug__" : Str)) = false) :
    wpAny M A (eval (.Name x pos) (envX cn cs L a ccd cl)) Q E s := nameX_L F hv.symm h hk hx hd
theorem tells_LC {k : Nat} {w : World} {name qual : Str} {params : Arguments} {body : List Stmt} {scope : Scope} {dV kV doc pm cdv ct oc : Value} {an od : Option Addr} {osl : Array (Option Value)} {f : Addr} {vs : List Value} {binds : List (Str × Value)}
    {pre : Heap → Prop} {post : Heap → Value → Heap → Prop}
    (ho : (hd.heap_39 w.params).lookup f = some ⟨oc, od, .func (fnOf name qual params body scope dV kV doc pm an cdv ct), osl⟩) (hcd : codeIn (hd.heap_39 w.params) cdv qual = true)
    (hbind : ∀ s, BindsTo s (fnOf name qual params body scope dV kV doc pm an cdv ct) ⟨vs, []⟩ binds)
    (hkind : (binds.all fun y => scope.names.lookup y.1 == some .local || scope.names.lookup y.1 == some .cell) = true)
    (hnd : ((cellsFrom 0 scope.names []).map (·.1)).Nodup)
    (hco : scope.isCoroutine = false) (hgen : scope.isGenerator = false) (hk : scope.kind = .function)
    (h : ∀ (dp un : Nat) (gd : Option (List Code)) (envs : List Env) (base : Heap) (s : Shared) L h₁ tk cells mean mg mb, dp + k < 1000 → un + 16 * k < 9900 → pre s.heap →
      Below (amb dp un gd envs) base envs s.heap → Fr s.heap L h₁ (bindL (envOfC qual scope L f cdv).kindOf binds fun _ => none) → News s.heap L h₁ cells →
      CellsAre (bindC (envOfC qual scope L f cdv).kindOf binds fun _ => none) (cellsFrom (L + 1) scope.names []) cells →
      (hd.heap_39 w.params).In s.heap → Top hd.view_39 (looseW hd.view_39 []) mean mg mb s.heap →
      let M9 := MM w; let env9 := envOfC qual scope L f cdv; let A9 := (amb dp un gd envs).deeper env9; let T9 := Done s post
      wpAny M9 A9 (execs body env9) T9 NoE { s with heap := h₁, toks := tk }) :
    Tells k w f vs pre post := tells_ofC ho hcd hbind hkind hnd hco hgen hk h
end Mine
end
section
open PySem PySem.W PyProof.Rows PySem.Calls
set_option Elab.async false
set_option maxRecDepth 100000
namespace Mine
theorem let_exec {M : Model} {A : Around} {E : Value → Shared → Prop} {s : Shared} {env : Env} {body : List Stmt} {Q : Flow → Shared → Prop}
    (h : let M9 := M; let env9 := env; let A9 := A; let T9 := Q; wpAny M9 A9 (execs body env9) T9 E s) : wpAny M A (execs body env) Q E s := h
theorem gen_state {M : Model} {A : Around} {E : Value → Shared → Prop} {s : Shared} {h₀ H : Heap} {L : Addr} {T : Nat} {α : Type} {t : Sem α} {m : Str → Option Value} {news : List (Addr × Obj)} {Q : α → Shared → Prop} (J : (Str → Option Value) → List (Addr × Obj) → Prop)
    (F : Fr h₀ L H m) (N : News h₀ L H news) (hj : J m news)
    (h : ∀ h' tk' m' news', Fr h₀ L h' m' → News h₀ L h' news' → J m' news' → wpAny M A t Q E { s with heap := h', toks := tk' }) : wpAny M A t Q E { s with heap := H, toks := T } := h _ _ _ _ F N hj
theorem call_S {k dp un : Nat} {gd : Option (List Code)} {outer : List Env} {w : World} {f : Addr} {vs : List Value} {pre : Heap → Prop} {post : Heap → Value → Heap → Prop} {A₀ A : Around} {base h₀ H : Heap} {s₀ : Shared} {K : Nat} {L : Addr} {m : Str → Option Value} {news : List (Addr × Obj)}
    {mean : ExcName → Option Value} {mg mb : Str → Option Value} {env : Env} {Q E : Value → Shared → Prop}
    (C : Tells k w f vs pre post) (B : Below A₀ base outer h₀) (F : Fr h₀ L H m) (N : News h₀ L H news) (X : (hd.heap_39 w.params).In h₀) (T : Top hd.view_39 (looseW hd.view_39 []) mean mg mb h₀)
    (hA : A = amb dp un gd (env :: outer)) (hf : env.frame = some L) (hke : env.scope.kind = .function) (hd : dp + k < 1000) (hu : un + 16 * k < 9900) (hp : pre H)
    (h : ∀ r h' tk', Fr h₀ L h' m → News h₀ L h' news → post H r h' → Q r { s₀ with heap := h', toks := tk' }) :
    wpAny (MM w) A (call (.ref f) vs) Q E { s₀ with heap := H, toks := K } :=
  call_T (s := { s₀ with heap := H, toks := K }) C B F N X T hA hf hke hd hu hp fun r h' tk' F' N' _ po => h r h' tk' F' N' po
end Mine
end
section
open PySem PySem.W PyProof.Rows PySem.Calls
set_option Elab.async false
set_option maxRecDepth 100000
namespace Mine

noncomputable def Turn (h₀ : Heap) (L : Addr) (own : Addr × Obj) (J : (Str → Option Value) → List (Addr × Obj) → Prop) (s : Shared) (Q : Flow → Shared → Prop) (f : Flow) (s₂ : Shared) : Prop :=
  match f with
  | .ret v => Q (.ret v) s₂
  | .brk => Q .next s₂
  | _ => ∃ h tk m' news', s₂ = { s with heap := h, toks := tk } ∧ Fr h₀ L h m' ∧ News h₀ L h (own :: news') ∧ (∀ p ∈ news', p.1 ≠ own.1) ∧ J m' news'
theorem Turn.next {h₀ : Heap} {L : Addr} {own : Addr × Obj} {J : (Str → Option Value) → List (Addr × Obj) → Prop} {s : Shared} {Q : Flow → Shared → Prop} {h : Heap} {tk : Nat} {m' : Str → Option Value} {news' : List (Addr × Obj)}
    (F : Fr h₀ L h m') (N : News h₀ L h (own :: news')) (hne : ∀ p ∈ news', p.1 ≠ own.1) (hj : J m' news') : Turn h₀ L own J s Q .next { s with heap := h, toks := tk } := ⟨h, tk, m', news', rfl, F, N, hne, hj⟩

theorem Turn.ret {h₀ : Heap} {L : Addr} {own : Addr × Obj} {J : (Str → Option Value) → List (Addr × Obj) → Prop} {s s₂ : Shared} {Q : Flow → Shared → Prop} {v : Value} (h : Q (.ret v) s₂) : Turn h₀ L own J s Q (.ret v) s₂ := h
theorem Turn.drop {h₀ : Heap} {L : Addr} {own : Addr × Obj} {J : (Str → Option Value) → List (Addr × Obj) → Prop} {s : Shared} {Q : Flow → Shared → Prop} {h : Heap} {tk : Nat} {m' : Str → Option Value} {news news' : List (Addr × Obj)}
    (F : Fr h₀ L h m') (N : News h₀ L h news) (hown : own ∈ news) (hsub : ∀ p ∈ news', p ∈ news) (hne : ∀ p ∈ news', p.1 ≠ own.1) (hj : J m' news') : Turn h₀ L own J s Q .next { s with heap := h, toks := tk } :=
  ⟨h, tk, m', news', rfl, F, fun p hp => N p ((List.mem_cons.mp hp).elim (fun e => e ▸ hown) (hsub p)), hne, hj⟩
theorem Turn.end0 {h₀ : Heap} {L : Addr} {own : Addr × Obj} {J : (Str → Option Value) → List (Addr × Obj) → Prop} {s : Shared} {Q : Flow → Shared → Prop} {h : Heap} {tk : Nat} {m' : Str → Option Value} {news : List (Addr × Obj)}
    (F : Fr h₀ L h m') (N : News h₀ L h news) (hown : own ∈ news) (hj : J m' []) : Turn h₀ L own J s Q .next { s with heap := h, toks := tk } := Turn.drop (news' := []) F N hown (by simp) (by simp) hj

section
variable {prog : Program} {w : World} {A : Around} {s : Shared} {env : Env} {h₀ : Heap} {target : Expr} {body : List Stmt} {Q : Flow → Shared → Prop}

theorem noE_noted {α : Type} {t : Sem α} {P : α → Shared → Prop} {E : Value → Shared → Prop} {s : Shared} {M : Model} (h : wpAny M A t P NoE s) : wpAny M A t P E s := wpAny_mono h (fun _ _ x => x) fun _ _ x => x.elim

theorem forLoop_walks {I : Addr} {fp : List Addr} {n : Nat} {P : Nat → Value → Prop} {St : Nat → Heap → Prop} {m : Str → Option Value} {news : List (Addr × Obj)} {R : Result → Shared → Prop}
    (W : Walks prog w A I fp [I] n P St) (hIL : I ≠ env.locals) (hI0 : h₀.get? I = none)
    (hgo : ∀ i (s' : Shared) v (Q' : Unit → Shared → Prop), St i s'.heap → Q' () s' → wpAny (model prog w) A (letOwnedTupleGo target (.ref I) v) Q' NoE s')
    (hob : ∀ i h, St i h → ∃ o, h.get? I = some o)
    (J : Nat → (Str → Option Value) → List (Addr × Obj) → Prop)
    (hfr : ∀ i h h' m' news', St i h → h'.get? I = h.get? I → Fr h₀ env.locals h' m' → News h₀ env.locals h' news' → J i m' news' → St i h')
    (hst : St 0 s.heap) (F : Fr h₀ env.locals s.heap m) (N : News h₀ env.locals s.heap news) (hnI : ∀ p ∈ news, p.1 ≠ I) (h0 : J 0 m news)
    (turn : ∀ i v m₁ news₁ h tk o, i < n → P i v → J i m₁ news₁ → (∀ p ∈ news₁, p.1 ≠ I) → Fr h₀ env.locals h m₁ → News h₀ env.locals h ((I, o) :: news₁) →
      wpAny (model prog w) A (assign target env v) (fun _ s₂ => wpAny (model prog w) A (execs body env) (Turn h₀ env.locals (I, o) (J (i + 1)) s Q) NoE s₂) NoE { s with heap := h, toks := tk })
    (hR : ∀ m' news' h' tk, J n m' news' → Fr h₀ env.locals h' m' → News h₀ env.locals h' news' → Q .next { s with heap := h', toks := tk })
    (hQ : ∀ f s', Q f s' → R (.ok f) s') :
    codeAny (model prog w) A (.forLoop target (.ref I) body [] env) R s := by
  have old : ∀ b o, h₀.get? b = some o → b ≠ I := fun b o e hb => by rw [hb, hI0] at e; cases e
  refine codeAny_forLoop_any
    (fun k s' => ∃ h' tk m' news' i, s' = { s with heap := h', toks := tk } ∧ St i h' ∧ Fr h₀ env.locals h' m' ∧ News h₀ env.locals h' news' ∧ (∀ p ∈ news', p.1 ≠ I) ∧ J i m' news' ∧ i ≤ n ∧ k = n + 1 - i) ?_ (n + 1)
    ⟨s.heap, s.toks, m, news, 0, rfl, hst, F, N, hnI, h0, Nat.zero_le _, rfl⟩
  rintro k s' ⟨h', tk, m', news', i, rfl, hst', F', N', hnw', hJ, hi, rfl⟩
  have next : ∀ h₁ : Heap, (∀ b o, b ∉ [I] → h'.get? b = some o → h₁.get? b = some o) → Fr h₀ env.locals h₁ m' ∧ News h₀ env.locals h₁ news' := fun h₁ hk₁ =>
    ⟨⟨F'.ns.at' fun o e => hk₁ _ o (by simp; exact fun q => hIL q.symm) e, fun b o e => hk₁ b o (by simp; exact old b o e) (F'.keep b o e), F'.above⟩, fun p hp => ⟨hk₁ _ _ (by simp; exact hnw' p hp) (N' p hp).1, (N' p hp).2⟩⟩
  by_cases hlt : i < n
  · refine W.item i _ _ _ hlt hst' fun v h₁ tk₁ hP hst₁ hk₁ => ?_
    obtain ⟨F₁, N₁⟩ := next h₁ hk₁
    obtain ⟨o, ho⟩ := hob _ _ hst₁
    refine noE_noted (hgo (i + 1) _ v _ hst₁ ?_)
    have N₂ : News h₀ env.locals h₁ ((I, o) :: news') := fun p hp => by
      rcases List.mem_cons.mp hp with rfl | hp
      · exact ⟨ho, hIL, hI0⟩
      · exact N₁ p hp
    refine noE_noted (wpAny_mono (turn i v m' news' h₁ tk₁ o hlt hP hJ hnw' F₁ N₂) (fun _ s₂ h₂ => noE_noted (wpAny_mono h₂ (fun f s₃ h₃ => ?_) fun _ _ e => e)) fun _ _ e => e)
    have fin : (∃ h tk m' news', s₃ = { s with heap := h, toks := tk } ∧ Fr h₀ env.locals h m' ∧ News h₀ env.locals h ((I, o) :: news') ∧ (∀ p ∈ news', p.1 ≠ I) ∧ J (i + 1) m' news') →
        ∃ m_1, m_1 < n + 1 - i ∧ ∃ h' tk m' news' i, s₃ = { s with heap := h', toks := tk } ∧ St i h' ∧ Fr h₀ env.locals h' m' ∧ News h₀ env.locals h' news' ∧ (∀ p ∈ news', p.1 ≠ I) ∧ J i m' news' ∧ i ≤ n ∧ m_1 = n + 1 - i := by
      rintro ⟨h₃', tk₃, m₂, news₂, rfl, F₃, N₃, ha₃, hJ₃⟩
      have N₄ : News h₀ env.locals h₃' news₂ := fun p hp => N₃ p (.tail _ hp)
      exact ⟨n + 1 - (i + 1), by omega, h₃', tk₃, m₂, news₂, i + 1, rfl, hfr _ _ _ _ _ hst₁ ((N₃ _ (.head _)).1.trans ho.symm) F₃ N₄ hJ₃, F₃, N₄, ha₃, hJ₃, hlt, rfl⟩
    cases f with
    | ret v => exact hQ _ _ h₃
    | brk => exact hQ _ _ h₃
    | cont => exact fin h₃
    | next => exact fin h₃
  · have hin : i = n := by omega
    subst hin
    refine W.done _ _ _ hst' fun h₁ tk₁ hk₁ => wpAny_execs_nil (hQ _ _ ?_)
    obtain ⟨F₁, N₁⟩ := next h₁ hk₁
    exact hR m' news' h₁ tk₁ hJ F₁ N₁

theorem for_base {l L : Addr} {vs : List Value} {m : Str → Option Value} {news : List (Addr × Obj)} {iter : Expr} {pos : Pos}
    (J : Nat → (Str → Option Value) → List (Addr × Obj) → Prop) (hh : A.handled = none) (hL : env.locals = L)
    (hl : h₀.IsList l vs.toArray) (F : Fr h₀ L s.heap m) (N : News h₀ L s.heap news) (h0 : J 0 m news)
    (hev : ∀ P : Value → Shared → Prop, P (.ref l) s → wpAny (model prog w) A (eval iter env) P NoE s)
    (turn : ∀ I i v m₁ news₁ h tk o, vs[i]? = some v → J i m₁ news₁ → (∀ p ∈ news₁, p.1 ≠ I) → Fr h₀ L h m₁ → News h₀ L h ((I, o) :: news₁) →
      wpAny (model prog w) A (assign target env v) (fun _ s₂ => wpAny (model prog w) A (execs body env) (Turn h₀ L (I, o) (J (i + 1)) s Q) NoE s₂) NoE { s with heap := h, toks := tk })
    (hR : ∀ m' news' h' tk, J vs.length m' news' → Fr h₀ L h' m' → News h₀ L h' news' → Q .next { s with heap := h', toks := tk })
    (hs : ∀ x, foldedSetIterable iter env x = pure x := by intro _; rfl) :
    wpAny (model prog w) A (exec (.For target iter body [] pos) env) Q NoE s := by
  subst hL
  refine wpAny_For (hev _ ?_) hs
  have hls : s.heap.IsList l vs.toArray := hl.at fun o e => F.keep l o e
  obtain ⟨ol, hol, _⟩ := id hl
  have hlt : l < h₀.objs.size := Heap.lt_size hol
  have hne : l ≠ s.heap.objs.size := Nat.ne_of_lt (Nat.lt_trans (Nat.lt_of_lt_of_le hlt F.above) F.ns.lt)
  refine wpAny_pyIter_list hls ?_
  have W := Walks.list (prog := prog) (w := w) hh s.heap.objs.size l hne vs.toArray
  rw [show vs.toArray.size = vs.length by simp] at W
  refine forLoop_walks W (Nat.ne_of_gt F.ns.lt) (next_is_new F) (fun i s' v Q' st hQ' => letGo_listiter st.1 hQ') (fun i h st => let ⟨o, ho, _⟩ := st.1; ⟨o, ho⟩) J
    (fun i h h' m' news' st e F' _ _ => ⟨let ⟨o, ho, r⟩ := st.1; ⟨o, e.trans ho, r⟩, hl.at fun o e => F'.keep l o e⟩)
    ⟨⟨_, Heap.get?_push_size _ rfl, rfl, rfl⟩, hls.at fun o e => Heap.get?_push_of_some _ e⟩ (F.push _) (fun p hp => ⟨Heap.get?_push_of_some _ (N p hp).1, (N p hp).2⟩)
    (fun p hp => Nat.ne_of_lt (Heap.lt_size (N p hp).1)) h0 (fun i v m₁ news₁ h tk o _ hP hJ hn F' N' => turn _ i v m₁ news₁ h tk o (by simpa using hP) hJ hn F' N') hR (fun _ _ x => x)

theorem for_led {l L : Addr} {vs : List Value} {nn : Nat} {m : Str → Option Value} {news : List (Addr × Obj)} {iter : Expr} {pos : Pos}
    (J : Nat → (Str → Option Value) → List (Addr × Obj) → Prop) (hh : A.handled = none) (hL : env.locals = L)
    (hmem : ∀ i m' news', J i m' news' → (l, W.listOf vs.toArray nn) ∈ news') (F : Fr h₀ L s.heap m) (N : News h₀ L s.heap news) (h0 : J 0 m news)
    (hev : ∀ P : Value → Shared → Prop, P (.ref l) s → wpAny (model prog w) A (eval iter env) P NoE s)
    (turn : ∀ I i v m₁ news₁ h tk o, vs[i]? = some v → J i m₁ news₁ → (∀ p ∈ news₁, p.1 ≠ I) → Fr h₀ L h m₁ → News h₀ L h ((I, o) :: news₁) →
      wpAny (model prog w) A (assign target env v) (fun _ s₂ => wpAny (model prog w) A (execs body env) (Turn h₀ L (I, o) (J (i + 1)) s Q) NoE s₂) NoE { s with heap := h, toks := tk })
    (hR : ∀ m' news' h' tk, J vs.length m' news' → Fr h₀ L h' m' → News h₀ L h' news' → Q .next { s with heap := h', toks := tk })
    (hs : ∀ x, foldedSetIterable iter env x = pure x := by intro _; rfl) :
    wpAny (model prog w) A (exec (.For target iter body [] pos) env) Q NoE s := by
  subst hL
  refine wpAny_For (hev _ ?_) hs
  have hol := (N _ (hmem _ _ _ h0)).1
  have hls : s.heap.IsList l vs.toArray := ⟨_, hol, rfl, nn, rfl⟩
  have hne : l ≠ s.heap.objs.size := Nat.ne_of_lt (Heap.lt_size hol)
  refine wpAny_pyIter_list hls ?_
  have W := Walks.list (prog := prog) (w := w) hh s.heap.objs.size l hne vs.toArray
  rw [show vs.toArray.size = vs.length by simp] at W
  refine forLoop_walks W (Nat.ne_of_gt F.ns.lt) (next_is_new F) (fun i s' v Q' st hQ' => letGo_listiter st.1 hQ') (fun i h st => let ⟨o, ho, _⟩ := st.1; ⟨o, ho⟩) J
    (fun i h h' m' news' st e F' N' hJ => ⟨let ⟨o, ho, r⟩ := st.1; ⟨o, e.trans ho, r⟩, ⟨_, (N' _ (hmem _ _ _ hJ)).1, rfl, nn, rfl⟩⟩)
    ⟨⟨_, Heap.get?_push_size _ rfl, rfl, rfl⟩, hls.at fun o e => Heap.get?_push_of_some _ e⟩ (F.push _) (fun p hp => ⟨Heap.get?_push_of_some _ (N p hp).1, (N p hp).2⟩)
    (fun p hp => Nat.ne_of_lt (Heap.lt_size (N p hp).1)) h0 (fun i v m₁ news₁ h tk o _ hP hJ hn F' N' => turn _ i v m₁ news₁ h tk o (by simpa using hP) hJ hn F' N') hR (fun _ _ x => x)
theorem for_empty {l L : Addr} {nn : Nat} {m : Str → Option Value} {news : List (Addr × Obj)} {iter : Expr} {pos : Pos}
    (hm : (l, W.listOf #[] nn) ∈ news) (hh : A.handled = none) (hL : env.locals = L) (F : Fr h₀ L s.heap m) (N : News h₀ L s.heap news)
    (hev : ∀ P : Value → Shared → Prop, P (.ref l) s → wpAny (model prog w) A (eval iter env) P NoE s)
    (hR : ∀ h' tk, Fr h₀ L h' m → News h₀ L h' news → Q .next { s with heap := h', toks := tk })
    (hs : ∀ x, foldedSetIterable iter env x = pure x := by intro _; rfl) :
    wpAny (model prog w) A (exec (.For target iter body [] pos) env) Q NoE s :=
  for_led (vs := []) (J := fun _ m' news' => m' = m ∧ news' = news) hh hL (fun _ _ _ h => h.2 ▸ hm) F N ⟨rfl, rfl⟩ hev (fun _ _ _ _ _ _ _ _ h => by simp at h) (fun _ _ h' tk h F' N' => hR h' tk (h.1 ▸ F') (h.2 ▸ N')) hs
theorem for_range {L : Addr} {n : Nat} {m : Str → Option Value} {news : List (Addr × Obj)} {x : Str} {px : Pos} {iter : Expr} {pos : Pos}
    (J : Nat → (Str → Option Value) → List (Addr × Obj) → Prop) (hh : A.handled = none) (hL : env.locals = L)
    (hn : n < 2 ^ 62) (_F : Fr h₀ L s.heap m) (_N : News h₀ L s.heap news) (h0 : J 0 m news)
    (hev : ∀ P : Value → Shared → Prop, (∀ r h' tk t u v, IsRange h' r 0 (n : Int) 1 t u v → Fr h₀ L h' m → News h₀ L h' news → P (.ref r) { s with heap := h', toks := tk }) → wpAny (model prog w) A (eval iter env) P NoE s)
    (turn : ∀ I i m₁ news₁ h tk t o, i < n → J i m₁ news₁ → (∀ p ∈ news₁, p.1 ≠ I) → Fr h₀ L h m₁ → News h₀ L h ((I, o) :: news₁) →
      wpAny (model prog w) A (assign (.Name x px) env (.int (i : Int) t)) (fun _ s₂ => wpAny (model prog w) A (execs body env) (Turn h₀ L (I, o) (J (i + 1)) s Q) NoE s₂) NoE { s with heap := h, toks := tk })
    (hR : ∀ m' news' h' tk, J n m' news' → Fr h₀ L h' m' → News h₀ L h' news' → Q .next { s with heap := h', toks := tk })
    (hs : ∀ x, foldedSetIterable iter env x = pure x := by intro _; rfl) :
    wpAny (model prog w) A (exec (.For (.Name x px) iter body [] pos) env) Q NoE s := by
  subst hL
  refine wpAny_For (hev _ fun r h' tk t u v hr F N => ?_) hs
  have hsz : Builtin.Range.rangeSize 0 (n : Int) 1 = (n : Int) := by
    unfold Builtin.Range.rangeSize
    rw [if_pos (by decide)]
    split
    · rw [Int.ediv_one]; omega
    · omega
  refine wpAny_pyIter_range (s := { s with heap := h', toks := tk }) hr (small_one (by omega) (by omega) (by omega) (by omega)) ?_
  rw [hsz]
  have W := Walks.range (prog := prog) (w := w) hh h'.objs.size 0 1 n
  refine forLoop_walks W (Nat.ne_of_gt F.ns.lt) (next_is_new F) (fun i s' v Q' st hQ' => (wpAny_pure hQ' : wpAny (model prog w) A (pure ()) Q' NoE s')) (fun i h st => ⟨_, st⟩) J
    (fun i h h' m' news' st e F' _ _ => e.trans st) ?_ (F.push _) (fun p hp => ⟨Heap.get?_push_of_some _ (N p hp).1, (N p hp).2⟩)
    (fun p hp => Nat.ne_of_lt (Heap.lt_size (N p hp).1)) h0 (fun i v m₁ news₁ h tk o hi hP hJ hn F' N' => ?_) hR (fun _ _ x => x)
  · show IsRangeIter _ _ _ _ _
    exact Heap.get?_push_size _ rfl
  · obtain ⟨t, rfl⟩ := hP
    rw [show (0 : Int) + (i : Int) * 1 = (i : Int) by omega]
    exact turn _ i m₁ news₁ h tk t o hi hJ hn F' N'
end

section
variable {prog : Program} {w : World} {A : Around} {s : Shared} {env : Env} {h₀ : Heap} {Q : Flow → Shared → Prop} {L : Addr}
theorem while_ {test : Expr} {body : List Stmt} {pos : Pos} {m : Str → Option Value} {news : List (Addr × Obj)} (J : Nat → (Str → Option Value) → List (Addr × Obj) → Prop) {n₀ : Nat}
    (F : Fr h₀ L s.heap m) (N : News h₀ L s.heap news) (hJ : J n₀ m news)
    (turn : ∀ n m₁ news₁ h₁ tk₁, Fr h₀ L h₁ m₁ → News h₀ L h₁ news₁ → J n m₁ news₁ →
      wpAny (model prog w) A (isTrue test env (eval test env)) (fun b s₂ =>
        if b = true then wpAny (model prog w) A (execs body env) (WhileStep2 h₀ L s J Q n) NoE s₂ else Q .next s₂) NoE { s with heap := h₁, toks := tk₁ }) :
    wpAny (model prog w) A (exec (.While test body [] pos) env) Q NoE s := While_inv2 J F N hJ turn (fun _ _ x => x.elim)
end

theorem wstep {h₀ h : Heap} {L : Addr} {s : Shared} {J : Nat → (Str → Option Value) → List (Addr × Obj) → Prop} {Q : Flow → Shared → Prop} {n : Nat} (n' : Nat) {tk : Nat} {m : Str → Option Value} {news : List (Addr × Obj)}
    (F : Fr h₀ L h m) (N : News h₀ L h news) (hn : n' < n) (hj : J n' m news) : WhileStep2 h₀ L s J Q n .next { s with heap := h, toks := tk } := ⟨h, tk, m, news, n', rfl, F, N, hn, hj⟩
noncomputable def Mid (h₀ : Heap) (L : Addr) (s : Shared) (P : (Str → Option Value) → List (Addr × Obj) → Prop) (f : Flow) (s' : Shared) : Prop :=
  f = .next ∧ ∃ h tk m news, s' = { s with heap := h, toks := tk } ∧ Fr h₀ L h m ∧ News h₀ L h news ∧ P m news
theorem Mid.intro {h₀ h : Heap} {L : Addr} {s : Shared} {P : (Str → Option Value) → List (Addr × Obj) → Prop} {tk : Nat} {m : Str → Option Value} {news : List (Addr × Obj)} (F : Fr h₀ L h m) (N : News h₀ L h news) (hp : P m news) :
    Mid h₀ L s P .next { s with heap := h, toks := tk } := ⟨rfl, h, tk, m, news, rfl, F, N, hp⟩
theorem cut {α : Type} {M : Model} {A : Around} {t : Sem α} {P Q : α → Shared → Prop} {s : Shared} (h : wpAny M A t P NoE s) (k : ∀ f s', P f s' → Q f s') : wpAny M A t Q NoE s := wpAny_mono h k fun _ _ x => x

noncomputable def over (m : Str → Option Value) : List (Str × Value) → Str → Option Value
  | [], y => m y
  | (x, v) :: r, y => if y = x then some v else over m r y
theorem over_eq {m : Str → Option Value} : ∀ {ps : List (Str × Value)}, (∀ p ∈ ps, m p.1 = some p.2) → over m ps = m
  | [], _ => rfl
  | (x, v) :: r, h => funext fun y => by
    show (if y = x then some v else over m r y) = m y
    by_cases e : y = x
    · rw [if_pos e, e]; exact (h (x, v) (.head _)).symm
    · rw [if_neg e, over_eq fun p hp => h p (.tail _ hp)]
theorem fr_over {h₀ h : Heap} {L : Addr} {m : Str → Option Value} (ps : List (Str × Value)) (F : Fr h₀ L h m) (hp : ∀ p ∈ ps, m p.1 = some p.2) : Fr h₀ L h (over m ps) := by rw [over_eq hp]; exact F

theorem news_cons {h₀ h h' : Heap} {L a : Addr} {o : Obj} {m : Str → Option Value} {news : List (Addr × Obj)} (F : Fr h₀ L h m) (N : News h₀ L h' news) (hn : h.get? a = none) (ho : h'.get? a = some o) : News h₀ L h' ((a, o) :: news) := by
  intro p hp
  rcases List.mem_cons.mp hp with rfl | hp
  · refine ⟨ho, fun e => ?_, ?_⟩
    · obtain ⟨oL, _, _, hL, _⟩ := F.ns
      have hn' : h.get? a = none := hn
      have e' : a = L := e
      rw [e', hL] at hn'; cases hn'
    · cases q : h₀.get? a with
      | none => rfl
      | some o' => have := F.keep a o' q; rw [hn] at this; cases this
  · exact N p hp
noncomputable def Stop (P : Prop) : Prop := P
theorem stop_ {P : Prop} (h : Stop P) : P := h
end Mine
end
section
open PySem PySem.W PyProof.Rows PySem.Calls
set_option Elab.async false
set_option maxRecDepth 100000
namespace Mine

theorem lower {h₀ h : Heap} {L : Addr} {m : Str → Option Value} {news : List (Addr × Obj)} (F : Fr h₀ L h m) (N : News h₀ L h news) {tups : List (Addr × Obj)} (ht : ∀ p ∈ tups, h₀.get? p.1 = some p.2) :
    Fr (hideAll h₀ (tups.map (·.1))) L h m ∧ News (hideAll h₀ (tups.map (·.1))) L h (news ++ tups) := by
  refine ⟨⟨F.ns, fun b o e => F.keep b o (of_hideAll _ e), by rw [hideAll_size]; exact F.above⟩, fun p hp => ?_⟩
  rcases List.mem_append.mp hp with hp | hp
  · refine ⟨(N p hp).1, (N p hp).2.1, ?_⟩
    cases q : (hideAll h₀ (tups.map (·.1))).get? p.1 with
    | none => rfl
    | some o => have := of_hideAll _ q; rw [(N p hp).2.2] at this; cases this
  · refine ⟨F.keep _ _ (ht p hp), fun q => ?_, hideAll_none _ (List.mem_map_of_mem hp)⟩
    have e := ht p hp
    rw [q, Heap.get?_none_of_le F.above] at e; cases e
theorem raise {h₀ h : Heap} {L : Addr} {m : Str → Option Value} {news tups : List (Addr × Obj)} (ht : ∀ p ∈ tups, h₀.get? p.1 = some p.2) (F : Fr (hideAll h₀ (tups.map (·.1))) L h m)
    (N : News (hideAll h₀ (tups.map (·.1))) L h (news ++ tups)) (off : ∀ p ∈ news, ∀ q ∈ tups, q.1 ≠ p.1) : Fr h₀ L h m ∧ News h₀ L h news := by
  refine ⟨⟨F.ns, fun b o e => ?_, by have := F.above; rw [hideAll_size] at this; exact this⟩, fun p hp => ⟨(N p (List.mem_append_left _ hp)).1, (N p (List.mem_append_left _ hp)).2.1, ?_⟩⟩
  · by_cases hb : b ∈ tups.map (·.1)
    · obtain ⟨q, hq, rfl⟩ := List.mem_map.mp hb
      have e1 := ht q hq
      rw [e] at e1
      rw [(N q (List.mem_append_right _ hq)).1, ← e1]
    · exact F.keep b o (hideAll_get _ e hb)
  · cases q : h₀.get? p.1 with
    | none => rfl
    | some o =>
      have e := hideAll_get (tups.map (·.1)) q fun hm => by
        obtain ⟨r, hr, e⟩ := List.mem_map.mp hm
        exact off p hp r hr e
      rw [(N p (List.mem_append_left _ hp)).2.2] at e; cases e

noncomputable def Elt (s : Shared) (R : Value → Prop) (y : Value) (s' : Shared) : Prop := ∃ tk, s' = { s with toks := tk } ∧ R y
theorem elt_ {s : Shared} {R : Value → Prop} {y : Value} {tk : Nat} (h : R y) : Elt s R y { s with toks := tk } := ⟨tk, rfl, h⟩

section
open LCg LCp
variable {prog : Program} {w : World} {A : Around} {E : Value → Shared → Prop} {s : Shared} {h₀ : Heap} {L : Addr} {m : Str → Option Value} {env : Env}

theorem restP {elt : Expr} {x x₂ : Str} {scope : Scope} {cl : List (Str × Addr)} {S : List (Addr × Obj) → Prop} {P : Nat → Value → Prop} {Fin : List Value → List (Addr × Obj) → Prop} {news : List (Addr × Obj)} {n : Nat}
    {R : Nat → Value → Prop} {V : Nat → Value → Value → Prop} (hS : S news)
    (hv : ∀ i v, P i v → ∃ (t : Addr) (ot : Obj) (v₁ v₂ : Value) (nt : Nat), v = .ref t ∧ (t, ot) ∈ news ∧ ot.cls = .type "tuple" ∧ ot.data = .seq #[v₁, v₂] nt ∧ V i v₁ v₂)
    (turn : ∀ i v₁ v₂, V i v₁ v₂ → ∀ ys I oI C oC D m₂ h tk, NsObj oC m₂ → m₂ x = some v₁ → m₂ x₂ = some v₂ → Fr h₀ L h m → News h₀ L h ((I, oI) :: (C, oC) :: (D, lst ys) :: news) → 
      wpAny (model prog w) A (eval elt (compEnvC scope cl C env)) (Elt { s with heap := h } (R i)) NoE { s with heap := h, toks := tk })
    (fin : ∀ ys, ys.length = n → (∀ i y, ys[i]? = some y → R i y) → Fin ys news) :
    ∀ (k i : Nat) (ys : List Value), i + k = n → ys.length = i → (∀ i y, ys[i]? = some y → R i y) → CompRestP prog w A h₀ L m env elt x x₂ scope cl s S P Fin k i ys news := by
  intro k
  induction k with
  | zero => intro i ys e1 e2 hR; exact CompRestP.zero (fin ys (by omega) hR)
  | succ k ih =>
    intro i ys e1 e2 hR
    refine CompRestP.succ fun v hP => ?_
    obtain ⟨t, ot, v₁, v₂, nt, e, hm, hc, hd, hV⟩ := hv i v hP
    refine ⟨t, ot, v₁, v₂, nt, e, hm, hc, hd, fun I oI C oC D m₂ h tk E' hC hx hx₂ F N off ne => ?_⟩
    refine wpAny_mono (turn i v₁ v₂ hV ys I oI C oC D m₂ h tk hC hx hx₂ F N) (fun y s' hy => ?_) fun _ _ e => e.elim
    obtain ⟨tk', rfl, hy⟩ := hy
    refine ⟨h, tk', news, rfl, F, N, off, hS, ih (i + 1) (ys ++ [y]) (by omega) (by simp [e2]) fun j z hj => ?_⟩
    by_cases hji : j < ys.length
    · rw [List.getElem?_append_left hji] at hj; exact hR j z hj
    · rw [List.getElem?_append_right (by omega)] at hj
      have : j - ys.length = 0 := by
        cases q : j - ys.length with
        | zero => rfl
        | succ q' => rw [q] at hj; simp at hj
      rw [this] at hj
      simp at hj
      have : j = i := by omega
      subst this; subst hj; exact hy

theorem comp_pair {elt iter : Expr} {x x₂ : Str} {px px₂ tp : Pos} {tk} {scope : Scope} {cl : List (Str × Addr)} {pos : Pos} {Q : Value → Shared → Prop} {ax : Addr} {vs : List Value} {news tups : List (Addr × Obj)}
    {R : Nat → Value → Prop} {V : Nat → Value → Value → Prop}
    (hh : A.handled = none) (F : Fr h₀ L s.heap m) (N : News h₀ L s.heap news) (ht : ∀ p ∈ tups, h₀.get? p.1 = some p.2) (hl : ∃ o n, (ax, o) ∈ tups ∧ o.cls = .type "list" ∧ o.data = .seq vs.toArray n) (hsz : vs.length ≤ 1000)
    (hv : ∀ i v, vs[i]? = some v → ∃ (t : Addr) (ot : Obj) (v₁ v₂ : Value) (nt : Nat), v = .ref t ∧ (t, ot) ∈ tups ∧ ot.cls = .type "tuple" ∧ ot.data = .seq #[v₁, v₂] nt ∧ V i v₁ v₂)
    (hclos : closureFor scope env = pure cl) (hcell : ∀ y ∈ scope.names, y.2 ≠ .cell) (hkind : scope.kind = .function)
    (hnames : ∀ y ∈ scope.names, y.2 = .local → scope.names.lookup y.1 = some .local) (hx : scope.names.lookup x = some .local) (hx₂ : scope.names.lookup x₂ = some .local) (hxx : x ≠ x₂)
    (hiter : ∀ Q' : Value → Shared → Prop, Q' (.ref ax) s → wpAny (model prog w) A (eval iter env) Q' E s)
    (turn : ∀ i v₁ v₂, V i v₁ v₂ → ∀ h₁ ys I oI C oC D m₂ h g tk, NsObj oC m₂ → m₂ x = some v₁ → m₂ x₂ = some v₂ → Fr h₁ L h m → News h₁ L h ((I, oI) :: (C, oC) :: (D, lst ys) :: (news ++ tups)) → 
      wpAny (model prog w) A (eval elt (compEnvC scope cl C env)) (Elt { s with heap := h } (R i)) NoE { ({ s with heap := g } : Shared) with heap := h, toks := tk })
    (fin : ∀ ys, ys.length = vs.length → (∀ i y, ys[i]? = some y → R i y) → ∀ D h tk, Fr h₀ L h m → News h₀ L h ((D, lst ys) :: news) → Q (.ref D) { s with heap := h, toks := tk })
    (hs : ∀ x, foldedSetIterable iter env x = pure x := by intro _; rfl) :
    wpAny (model prog w) A (eval (.ListComp elt [⟨.Tuple [.Name x px, .Name x₂ px₂] tk tp, iter, [], 0⟩] scope pos) env) Q E s := by
  obtain ⟨F', N'⟩ := lower F N ht
  refine ListComp_P F' hclos hcell hkind hnames hx hx₂ hxx (hiter _ ?_) hs
  obtain ⟨o, n, hm, hc, hd⟩ := hl
  refine ⟨ax, vs.toArray, _, rfl, hh, F', N', .inr ⟨o, List.mem_append_right _ hm, hc, n, hd⟩, ?_, ?_⟩
  · rw [List.size_toArray]; exact Nat.le_trans hsz (by decide)
  · rintro s₂ ⟨g, rfl⟩
    refine restP (R := R) (V := V) (n := vs.toArray.size) (.inr ⟨o, List.mem_append_right _ hm, hc, n, hd⟩) (fun i v hP => ?_) ?_ ?_ _ 0 [] (by simp) rfl (fun i y e => by simp at e)
    · rw [List.getElem?_toArray] at hP
      obtain ⟨t, ot, v₁, v₂, nt, e, hm, hc, hd, hV⟩ := hv i v hP
      exact ⟨t, ot, v₁, v₂, nt, e, List.mem_append_right _ hm, hc, hd, hV⟩
    · intro i v₁ v₂ hV ys I oI C oC D m₂ h tk hC hx hx₂ F N
      exact turn i v₁ v₂ hV _ ys I oI C oC D m₂ h g tk hC hx hx₂ F N
    · intro ys hyl hR D h tk F N off
      have off' : ∀ p ∈ news ++ tups, p.1 ≠ D := by
        have : ∀ {l : List (Addr × Obj)}, Off1 D l → ∀ p ∈ l, p.1 ≠ D := by
          intro l
          induction l with
          | nil => intro _ p hp; cases hp
          | cons a l ih =>
            intro o p hp
            rcases List.mem_cons.mp hp with rfl | hp
            · exact o.1
            · exact ih o.2 p hp
        exact this off
      obtain ⟨F2, N2⟩ := raise (news := (D, lst ys) :: news) ht F N fun p hp q hq => by
        rcases List.mem_cons.mp hp with rfl | hp
        · exact off' q (List.mem_append_right _ hq)
        · intro e
          have c := ht q hq
          have d := (‹News h₀ L s.heap news› p hp).2.2
          rw [← e, c] at d; cases d
      exact fin ys (by simpa using hyl) hR D h tk F2 N2
end
end Mine
end
section
open PySem PySem.W PyProof.Rows PySem.Calls
set_option Elab.async false
set_option maxRecDepth 100000
namespace Mine
theorem allLt_mem {d : Nat} : ∀ {l : List (Addr × Obj)}, AllLt d l → ∀ p ∈ l, p.1 < d
  | [], _, _, h => nomatch h
  | _ :: _, x, p, h => by
    rcases List.mem_cons.mp h with rfl | h
    · exact x.1
    · exact allLt_mem x.2 p h
noncomputable def EltN (h₀ : Heap) (L : Addr) (m : Str → Option Value) (s : Shared) (keep : List (Addr × Obj)) (R : Obj → Prop) (y : Value) (s' : Shared) : Prop :=
  ∃ h' tk b o, s' = { s with heap := h', toks := tk } ∧ y = .ref b ∧ Fr h₀ L h' m ∧ News h₀ L h' ((b, o) :: keep) ∧ AllLt b keep ∧ R o
theorem eltN_ {h₀ h' : Heap} {L : Addr} {m : Str → Option Value} {s : Shared} {keep : List (Addr × Obj)} {R : Obj → Prop} {b : Addr} {o : Obj} {tk : Nat} (F : Fr h₀ L h' m) (N : News h₀ L h' ((b, o) :: keep)) (l : AllLt b keep) (r : R o) :
    EltN h₀ L m s keep R (.ref b) { s with heap := h', toks := tk } := ⟨h', tk, b, o, rfl, rfl, F, N, l, r⟩
noncomputable def Made (R : Nat → Obj → Prop) (ys : List Value) (ex : List (Addr × Obj)) : Prop := ∀ (i : Nat) (y : Value), ys[i]? = some y → ∃ b o, y = .ref b ∧ (b, o) ∈ ex ∧ R i o
section
open LCg
variable {prog : Program} {w : World} {A : Around} {E : Value → Shared → Prop} {s : Shared} {h₀ : Heap} {L : Addr} {m : Str → Option Value} {env : Env}
theorem restU {elt : Expr} {x : Str} {scope : Scope} {cl : List (Str × Addr)} {S : List (Addr × Obj) → Prop} {P : Nat → Value → Prop} {Fin : List Value → List (Addr × Obj) → Prop} {news : List (Addr × Obj)} {n : Nat}
    {R : Nat → Obj → Prop} (hS : ∀ ex, S (news ++ ex))
    (turn : ∀ i v, P i v → i < n → ∀ ys ex I oI C oC D m₂ h tk, NsObj oC m₂ → m₂ x = some v → Fr h₀ L h m → News h₀ L h ((I, oI) :: (C, oC) :: (D, lst ys) :: (news ++ ex)) → 
      wpAny (model prog w) A (eval elt (compEnvC scope cl C env)) (EltN h₀ L m { s with heap := h, toks := tk } ((I, oI) :: (C, oC) :: (D, lst ys) :: (news ++ ex)) (R i)) NoE { s with heap := h, toks := tk })
    (fin : ∀ ys ex, ys.length = n → Made R ys ex → Fin ys (news ++ ex)) :
    ∀ (k i : Nat) (ys : List Value) (ex : List (Addr × Obj)), i + k = n → ys.length = i → Made R ys ex → CompRest prog w A h₀ L m env elt x scope cl s S P Fin k i ys (news ++ ex) := by
  intro k
  induction k with
  | zero => intro i ys ex e1 e2 hR; exact CompRest.zero (fin ys ex (by omega) hR)
  | succ k ih =>
    intro i ys ex e1 e2 hR
    refine CompRest.succ fun v I oI C oC D m₂ h tk E' hP hC hx F N off ne => ?_
    refine wpAny_mono (turn i v hP (by omega) ys ex I oI C oC D m₂ h tk hC hx F N) (fun y s' hy => ?_) fun _ _ e => e.elim
    obtain ⟨h', tk', b, o, rfl, rfl, F', N', lt, r⟩ := hy
    have hlt := allLt_mem lt
    have offm := off.mem
    refine ⟨h', tk', news ++ (ex ++ [(b, o)]), rfl, F', ?_, ?_, hS _, ih (i + 1) (ys ++ [.ref b]) (ex ++ [(b, o)]) (by omega) (by simp [e2]) fun j z hj => ?_⟩
    · intro p hp
      refine N' p ?_
      simp only [List.mem_cons, List.mem_append, List.not_mem_nil, or_false] at hp ⊢
      rcases hp with h | h | h | h | h | h
      · exact .inr (.inl h)
      · exact .inr (.inr (.inl h))
      · exact .inr (.inr (.inr (.inl h)))
      · exact .inr (.inr (.inr (.inr (.inl h))))
      · exact .inr (.inr (.inr (.inr (.inr h))))
      · exact .inl h
    · refine Off3.of fun p hp => ?_
      rw [← List.append_assoc] at hp
      rcases List.mem_append.mp hp with hp | hp
      · exact offm p hp
      · rw [List.mem_singleton.mp hp]
        exact ⟨Ne.symm (Nat.ne_of_lt (hlt (I, oI) (by simp))), Ne.symm (Nat.ne_of_lt (hlt (C, oC) (by simp))), Ne.symm (Nat.ne_of_lt (hlt (D, lst ys) (by simp)))⟩
    · by_cases hji : j < ys.length
      · rw [List.getElem?_append_left hji] at hj
        obtain ⟨b', o', e, hm, hr⟩ := hR j z hj
        exact ⟨b', o', e, List.mem_append_left _ hm, hr⟩
      · rw [List.getElem?_append_right (by omega)] at hj
        have h0 : j - ys.length = 0 := by
          cases q : j - ys.length with
          | zero => rfl
          | succ q' => rw [q] at hj; simp at hj
        rw [h0] at hj
        simp at hj
        have : j = i := by omega
        subst this; subst hj
        exact ⟨b, o, rfl, by simp, r⟩
end
end Mine
end
section
open PySem PySem.W PyProof.Rows PySem.Calls
set_option Elab.async false
set_option maxRecDepth 100000
set_option maxHeartbeats 8000000
namespace Mine
theorem off_Flo : True := by
  w_top off
  trivial
theorem fill_Flo : (PySem.Challenge.rw_pe0158_01.prog = PySem.Challenge.rw_pe0158_01.prog) ∧ hd.heap_39 = hd.heap_39 := by
  k_fill
  exact ⟨rfl, rfl⟩
section
variable {prog : Program} {w : World} {A : Around} {E : Value → Shared → Prop} {s : Shared} {Q : Value → Shared → Prop} {h₀ : Heap} {L : Addr} {m : Str → Option Value} {news : List (Addr × Obj)}
open PySem.Flt
noncomputable def max3 (a b c : UInt64) : UInt64 := if Float64.cmp a b == some .lt then (if Float64.cmp b c == some .lt then c else b) else (if Float64.cmp a c == some .lt then c else a)
noncomputable def min3 (a b c : UInt64) : UInt64 := if Float64.cmp b a == some .lt then (if Float64.cmp c b == some .lt then c else b) else (if Float64.cmp c a == some .lt then c else a)
theorem ltV_fl (x y : UInt64) (u v : Tok) : ltV (.float x u) (.float y v) = (Float64.cmp x y == some .lt) := rfl
theorem max3_fl {a b c : UInt64} {t u x : Tok} (hh : A.handled = none) (F : Fr h₀ L s.heap m) (N : News h₀ L s.heap news)
    (h : ∀ h' tk v, Fr h₀ L h' m → News h₀ L h' news → Q (.float (max3 a b c) v) { s with heap := h', toks := tk }) :
    wpAny (model prog w) A (call (.builtin "max") [.float a t, .float b u, .float c x]) Q E s := by
  have hT : (s.heap.push { cls := .type "tuple", data := .seq #[.float a t, .float b u, .float c x] }).IsTuple s.heap.objs.size #[.float a t, .float b u, .float c x] := ⟨_, Heap.get?_push_size _ rfl, rfl, 0, rfl⟩
  refine call_max_three (wpAny_pyIter_tuple hT ?_)
  have hsz : (s.heap.push { cls := .type "tuple", data := .seq #[.float a t, .float b u, .float c x] }).objs.size = s.heap.objs.size + 1 := Heap.size_push ..
  refine ⟨_, [_, s.heap.objs.size], [_], _, _, _, _, rfl, Walks.tuple (A := A.in1) hh _ s.heap.objs.size (by rw [hsz]; exact Nat.ne_of_lt (Nat.lt_succ_self _)) #[.float a t, .float b u, .float c x],
    ⟨⟨_, Heap.get?_push_size _ rfl, rfl, rfl⟩, hT.push _⟩, fun d hd => ?_, by simp, cmpOf_gt #[.float a t, .float b u, .float c x] (by simp [NumV.float]), fun v h' tk hP hk => ?_⟩
  · show d < ((s.heap.push _).push _).objs.size
    rw [Heap.size_push, hsz]
    rcases List.mem_cons.mp hd with rfl | hd
    · rw [hsz]; exact Nat.lt_succ_self _
    · rcases List.mem_cons.mp hd with rfl | hd
      · exact Nat.lt_succ_of_lt (Nat.lt_succ_self _)
      · cases hd
  · have hold : ∀ d o, s.heap.get? d = some o → h'.get? d = some o := fun d o e => by
      refine hk d o (fun hm => ?_) (Heap.get?_push_of_some _ (Heap.get?_push_of_some _ e))
      rcases List.mem_cons.mp hm with e1 | hm
      · have := Heap.lt_size e; rw [e1, hsz] at this; exact Nat.lt_irrefl _ (Nat.lt_of_succ_lt this)
      · cases hm
    have key := fun tok => h h' tk tok (F.grownK hold) (N.grown hold)
    unfold max3 at key
    cases h1 : (Float64.cmp a b == some .lt) <;> cases h2 : (Float64.cmp b c == some .lt) <;> cases h3 : (Float64.cmp a c == some .lt) <;>
      simp [argBest, ltV_fl, h1, h2, h3] at hP key <;> rw [← hP] <;> exact key _
theorem min3_fl {a b c : UInt64} {t u x : Tok} (hh : A.handled = none) (F : Fr h₀ L s.heap m) (N : News h₀ L s.heap news)
    (h : ∀ h' tk v, Fr h₀ L h' m → News h₀ L h' news → Q (.float (min3 a b c) v) { s with heap := h', toks := tk }) :
    wpAny (model prog w) A (call (.builtin "min") [.float a t, .float b u, .float c x]) Q E s := by
  have hT : (s.heap.push { cls := .type "tuple", data := .seq #[.float a t, .float b u, .float c x] }).IsTuple s.heap.objs.size #[.float a t, .float b u, .float c x] := ⟨_, Heap.get?_push_size _ rfl, rfl, 0, rfl⟩
  refine call_min_three (wpAny_pyIter_tuple hT ?_)
  have hsz : (s.heap.push { cls := .type "tuple", data := .seq #[.float a t, .float b u, .float c x] }).objs.size = s.heap.objs.size + 1 := Heap.size_push ..
  refine ⟨_, [_, s.heap.objs.size], [_], _, _, _, _, rfl, Walks.tuple (A := A.in1) hh _ s.heap.objs.size (by rw [hsz]; exact Nat.ne_of_lt (Nat.lt_succ_self _)) #[.float a t, .float b u, .float c x],
    ⟨⟨_, Heap.get?_push_size _ rfl, rfl, rfl⟩, hT.push _⟩, fun d hd => ?_, by simp, cmpOf_lt #[.float a t, .float b u, .float c x] (by simp [NumV.float]), fun v h' tk hP hk => ?_⟩
  · show d < ((s.heap.push _).push _).objs.size
    rw [Heap.size_push, hsz]
    rcases List.mem_cons.mp hd with rfl | hd
    · rw [hsz]; exact Nat.lt_succ_self _
    · rcases List.mem_cons.mp hd with rfl | hd
      · exact Nat.lt_succ_of_lt (Nat.lt_succ_self _)
      · cases hd
  · have hold : ∀ d o, s.heap.get? d = some o → h'.get? d = some o := fun d o e => by
      refine hk d o (fun hm => ?_) (Heap.get?_push_of_some _ (Heap.get?_push_of_some _ e))
      rcases List.mem_cons.mp hm with e1 | hm
      · have := Heap.lt_size e; rw [e1, hsz] at this; exact Nat.lt_irrefl _ (Nat.lt_of_succ_lt this)
      · cases hm
    have key := fun tok => h h' tk tok (F.grownK hold) (N.grown hold)
    unfold min3 at key
    cases h1 : (Float64.cmp b a == some .lt) <;> cases h2 : (Float64.cmp c b == some .lt) <;> cases h3 : (Float64.cmp c a == some .lt) <;>
      simp [argBest, ltV_fl, h1, h2, h3] at hP key <;> rw [← hP] <;> exact key _
end
noncomputable def c1 : UInt64 := 4607182418800017408
noncomputable def c2 : UInt64 := 4611686018427387904
noncomputable def c4 : UInt64 := 4616189618054758400
noncomputable def c6 : UInt64 := 4618441417868443648
noncomputable def cH : UInt64 := 4602678819172646912
noncomputable abbrev tup3 (x : UInt64) (t : Tok) (y : UInt64) (u : Tok) (z : UInt64) (v : Tok) : Obj := { cls := .type "tuple", data := .seq #[.float x t, .float y u, .float z v] }
noncomputable def Tup3 (g : UInt64 × UInt64 × UInt64) (h : Heap) (r : Value) (h' : Heap) : Prop := ∃ a x t y u z v, r = .ref a ∧ h.get? a = none ∧ h'.get? a = some (tup3 x t y u z v) ∧ (x, y, z) = g
theorem Tup3.of {h₀ h' : Heap} {L a : Addr} {x y z : UInt64} {t u v : Tok} {g : UInt64 × UInt64 × UInt64} {news : List (Addr × Obj)} (N : News h₀ L h' ((a, tup3 x t y u z v) :: news)) (e : (x, y, z) = g) : Tup3 g h₀ (.ref a) h' :=
  ⟨a, x, t, y, u, z, v, rfl, (N _ (.head _)).2.2, (N _ (.head _)).1, e⟩
noncomputable def hsvI (a : UInt64) : Int := PySem.Flt.toInt Float64.truncOf (Float64.mul a c6)
noncomputable def hsvF (a b c : UInt64) : UInt64 × UInt64 × UInt64 :=
  if Float64.cmp b 0 == some .eq then (c, c, c) else
  let f := Float64.sub (Float64.mul a c6) (Float64.ofInt (hsvI a))
  let p := Float64.mul c (Float64.sub c1 b)
  let q := Float64.mul c (Float64.sub c1 (Float64.mul b f))
  let t := Float64.mul c (Float64.sub c1 (Float64.mul b (Float64.sub c1 f)))
  if (hsvI a).fmod 6 = 0 then (c, t, p) else if (hsvI a).fmod 6 = 1 then (q, c, p) else if (hsvI a).fmod 6 = 2 then (p, c, t) else
  if (hsvI a).fmod 6 = 3 then (p, q, c) else if (hsvI a).fmod 6 = 4 then (t, p, c) else (c, p, q)
noncomputable def hsvOk (a : UInt64) : Bool := !Float64.isNaN (Float64.mul a c6) && !Float64.isInf (Float64.mul a c6) && decide ((hsvI a).natAbs < 100)
theorem big_le : 100 ≤ 2 ^ 1024 - 2 ^ 970 := by decide
theorem t_hsv (w : World) (a b c : UInt64) (ta tb tc : Tok) : Tells 2 w 35 [.float a ta, .float b tb, .float c tc] (fun _ => hsvOk a = true) (Tup3 (hsvF a b c)) := by
  k_with_none
  k_with "execs cons" => ((try k_fold); refine exe_cons ?_; intro q9)
  k_with "SeqC" => (first | refine seqC_next ?_ | refine seqC_ret ?_)
  k_with "storeName" => (k_here; k_dflt (refine store_T (s₀ := s) (by k_asm) (by k_asm) ?_ (by rfl) (by rfl)); k_whole; intro hK9 tkK9 mK9 FK9 NK9; (try k_sweep))
  k_with "storeName" => (k_here; (with_reducible show wpAny _ _ (storeName _ _ (Value.str _ _)) _ _ _); k_dflt (refine store_S (s₀ := s) (by k_asm) (by k_asm) ?_ (by rfl) (by rfl)); k_whole; intro hK9 tkK9 tK9 mK9 FK9 NK9; (try k_sweep))
  k_with "storeName" => (k_here; (with_reducible show wpAny _ _ (storeName _ _ (Value.int _ _)) _ _ _); k_dflt (refine store_I (s₀ := s) (by k_asm) (by k_asm) ?_ (by rfl) (by rfl)); k_whole; intro hK9 tkK9 tK9 mK9 FK9 NK9; (try k_sweep))
  k_with "eval Name" => (k_here; k_dflt (refine name_L (by k_asm) (by exact rfl) ?_ (by rfl) (by rfl) (by decide)); k_whole)
  k_with "call builtin:max" => (((with_reducible show wpAny _ _ (call _ [Value.float _ _, Value.float _ _, Value.float _ _]) _ _ _); (rename News _ _ _ _ => N'); (rename Fr _ _ _ _ => F'); refine max3_fl rfl F' N' ?_; clear N'; intro _ _ _ _ _))
  k_with "call builtin:min" => (((with_reducible show wpAny _ _ (call _ [Value.float _ _, Value.float _ _, Value.float _ _]) _ _ _); (rename News _ _ _ _ => N'); (rename Fr _ _ _ _ => F'); refine min3_fl rfl F' N' ?_; clear N'; intro _ _ _ _ _))
  refine' tells_L ?k6 ?k7 ?k9 ?kB ?c2 ?c3 ?c4 ?c5 ?_
  (case k6 => k_is); (case k7 => k_is); (case k9 => exact fun _ => BindsTo.of_eq rfl); (case c5 => decide); (case kB => exact locs rfl); (case c2 => exact rfl); (case c3 => exact rfl); (case c4 => exact rfl)
  intro dp un gd envs base s L h₁ tk mean mg mb hdp hun hp B' m9 F' N' X' T' M9 env9 A9 T9
  simp only [hsvOk, Bool.and_eq_true, Bool.not_eq_true', decide_eq_true_eq] at hp
  obtain ⟨⟨hp1, hp2⟩, hp3⟩ := hp
  (try dsimp only)
  k_steps
  all_goals first
    | (exfalso; exact Bool.false_ne_true (hp1.symm.trans (by assumption)))
    | (exfalso; exact Bool.false_ne_true (hp2.symm.trans (by assumption)))
    | (exfalso; exact absurd (Nat.le_trans big_le (by assumption)) (Nat.not_le_of_lt hp3))
    | (refine done_ (by assumption) (Tup3.of (by assumption) ?_); simp only [hsvF, hsvI, c1, c6, *, if_true, if_false, Bool.false_eq_true]; done)
    | (refine done_ (by assumption) (Tup3.of (by assumption) ?_); simp [hsvF, hsvI, c1, c6, *]; done)
    | (exfalso; have g1 := fmod_lo (n := 6) (hsvI a) (by decide); have g2 := fmod_hi (n := 6) (hsvI a) (by decide); simp only [hsvI, c6] at g1 g2; omega)
noncomputable def hlsF (a b c : UInt64) : UInt64 × UInt64 × UInt64 :=
  let mx := max3 a b c
  let mn := min3 a b c
  let l := Float64.div (Float64.add mx mn) c2
  if Float64.cmp mn mx == some .eq then (0, l, 0) else
  let rg := Float64.sub mx mn
  let s := if Float64.cmp l cH == some .lt || Float64.cmp l cH == some .eq then Float64.div rg (Float64.add mx mn) else Float64.div rg (Float64.sub (Float64.sub c2 mx) mn)
  let rc := Float64.div (Float64.sub mx a) rg
  let gc := Float64.div (Float64.sub mx b) rg
  let bc := Float64.div (Float64.sub mx c) rg
  let h := if Float64.cmp a mx == some .eq then Float64.sub bc gc else if Float64.cmp b mx == some .eq then Float64.sub (Float64.add c2 rc) bc else Float64.sub (Float64.add c4 gc) rc
  ((Float64.divmod (Float64.div h c6) c1).2, l, s)
noncomputable def hlsOk (a b c : UInt64) : Bool := !Float64.isZero (Float64.add (max3 a b c) (min3 a b c)) && !Float64.isZero (Float64.sub (max3 a b c) (min3 a b c)) && !Float64.isZero (Float64.sub (Float64.sub c2 (max3 a b c)) (min3 a b c))
theorem t_hls (w : World) (a b c : UInt64) (ta tb tc : Tok) : Tells 2 w 28 [.float a ta, .float b tb, .float c tc] (fun _ => hlsOk a b c = true) (Tup3 (hlsF a b c)) := by
  k_with_none
  k_with "execs cons" => ((try k_fold); refine exe_cons ?_; intro q9)
  k_with "SeqC" => (first | refine seqC_next ?_ | refine seqC_ret ?_)
  k_with "storeName" => (k_here; k_dflt (refine store_T (s₀ := s) (by k_asm) (by k_asm) ?_ (by rfl) (by rfl)); k_whole; intro hK9 tkK9 mK9 FK9 NK9; (try k_sweep))
  k_with "storeName" => (k_here; (with_reducible show wpAny _ _ (storeName _ _ (Value.str _ _)) _ _ _); k_dflt (refine store_S (s₀ := s) (by k_asm) (by k_asm) ?_ (by rfl) (by rfl)); k_whole; intro hK9 tkK9 tK9 mK9 FK9 NK9; (try k_sweep))
  k_with "storeName" => (k_here; (with_reducible show wpAny _ _ (storeName _ _ (Value.int _ _)) _ _ _); k_dflt (refine store_I (s₀ := s) (by k_asm) (by k_asm) ?_ (by rfl) (by rfl)); k_whole; intro hK9 tkK9 tK9 mK9 FK9 NK9; (try k_sweep))
  k_with "eval Name" => (k_here; k_dflt (refine name_L (by k_asm) (by exact rfl) ?_ (by rfl) (by rfl) (by decide)); k_whole)
  k_with "call builtin:max" => (((with_reducible show wpAny _ _ (call _ [Value.float _ _, Value.float _ _, Value.float _ _]) _ _ _); (rename News _ _ _ _ => N'); (rename Fr _ _ _ _ => F'); refine max3_fl rfl F' N' ?_; clear N'; intro _ _ _ _ _))
  k_with "call builtin:min" => (((with_reducible show wpAny _ _ (call _ [Value.float _ _, Value.float _ _, Value.float _ _]) _ _ _); (rename News _ _ _ _ => N'); (rename Fr _ _ _ _ => F'); refine min3_fl rfl F' N' ?_; clear N'; intro _ _ _ _ _))
  refine' tells_L ?k6 ?k7 ?k9 ?kB ?c2 ?c3 ?c4 ?c5 ?_
  (case k6 => k_is); (case k7 => k_is); (case k9 => exact fun _ => BindsTo.of_eq rfl); (case c5 => decide); (case kB => exact locs rfl); (case c2 => exact rfl); (case c3 => exact rfl); (case c4 => exact rfl)
  intro dp un gd envs base s L h₁ tk mean mg mb hdp hun hp B' m9 F' N' X' T' M9 env9 A9 T9
  simp only [hlsOk, Bool.and_eq_true, Bool.not_eq_true'] at hp
  obtain ⟨⟨hp1, hp2⟩, hp3⟩ := hp
  (try dsimp only)
  k_steps
  all_goals first
    | (exfalso; exact Bool.false_ne_true (hp1.symm.trans (by assumption)))
    | (exfalso; exact Bool.false_ne_true (hp2.symm.trans (by assumption)))
    | (exfalso; exact Bool.false_ne_true (hp3.symm.trans (by assumption)))
    | (refine done_ (by assumption) (Tup3.of (by assumption) ?_); simp only [hlsF, c1, c2, c4, c6, cH, *, if_true, if_false, Bool.false_eq_true]; done)
end Mine
end
section
open PySem PySem.W PyProof.Rows PySem.Calls
set_option maxRecDepth 100000
namespace Mine
noncomputable def hueF (n : Int) : UInt64 := Float64.ofFrac (decide (n < 0) != decide ((16 : Int) < 0)) n.natAbs (Int.natAbs 16)
noncomputable def turnN (b : Bool) (n : Int) : Int := if b then (n + 8) % 16 else n
noncomputable def rgbF (p : Bool) (n : Int) : UInt64 × UInt64 × UInt64 := if p then hsvF (hueF n) cH c1 else hsvF (hueF n) c1 cH
noncomputable def rgbT (b p : Bool) (n : Int) : UInt64 × UInt64 × UInt64 :=
  if b then (Float64.sub c1 (rgbF p n).1, Float64.sub c1 (rgbF p n).2.1, Float64.sub c1 (rgbF p n).2.2) else rgbF p n
noncomputable def c34 : UInt64 := 4604930618986332160
noncomputable def c14 : UInt64 := 4598175219545276416
noncomputable def all16 : List Int := [0, 1, 2, 3, 4, 5, 6, 7, 8, 9, 10, 11, 12, 13, 14, 15]
theorem in16 {n : Int} (h0 : 0 ≤ n) (h1 : n < 16) : n ∈ all16 := by
  obtain ⟨k, rfl⟩ := Int.eq_ofNat_of_zero_le h0
  exact (by decide +kernel : ∀ k < 16, ((k : Nat) : Int) ∈ all16) k (Int.ofNat_lt.mp h1)
noncomputable def fact16 (n : Int) : Bool := !Float64.isInf (hueF n) && hsvOk (hueF n) &&
  [true, false].all fun p => [true, false].all fun b => hlsOk (rgbT b p n).1 (rgbT b p n).2.1 (rgbT b p n).2.2 &&
    decide (hlsF (rgbT b p n).1 (rgbT b p n).2.1 (rgbT b p n).2.2 = (hueF (turnN b n), if p == b then c14 else c34, c1))
theorem fact16_all : all16.all fact16 = true := by decide +kernel
end Mine
end
section
open PySem PySem.W PyProof.Rows PySem.Calls
set_option Elab.async false
set_option maxRecDepth 100000
set_option maxHeartbeats 8000000
namespace Mine
theorem off_Rd : True := by
  w_top off
  trivial
theorem fill_Rd : (PySem.Challenge.rw_pe0158_01.prog = PySem.Challenge.rw_pe0158_01.prog) ∧ hd.heap_39 = hd.heap_39 := by
  k_fill
  exact ⟨rfl, rfl⟩
theorem call_T3 {k dp un : Nat} {gd : Option (List Code)} {outer : List Env} {w : World} {f : Addr} {vs : List Value} {pre : Heap → Prop} {g : UInt64 × UInt64 × UInt64} {A₀ A : Around} {base h₀ : Heap} {s : Shared} {L : Addr} {m : Str → Option Value} {news : List (Addr × Obj)}
    {mean : ExcName → Option Value} {mg mb : Str → Option Value} {env : Env} {Q E : Value → Shared → Prop}
    (C : Tells k w f vs pre (Tup3 g)) (B : Below A₀ base outer h₀) (F : Fr h₀ L s.heap m) (N : News h₀ L s.heap news) (X : (hd.heap_39 w.params).In h₀) (T : Top hd.view_39 (looseW hd.view_39 []) mean mg mb h₀)
    (hA : A = amb dp un gd (env :: outer)) (hf : env.frame = some L) (hke : env.scope.kind = .function) (hd : dp + k < 1000) (hu : un + 16 * k < 9900) (hp : pre s.heap)
    (h : ∀ a t u v h' tk', Fr h₀ L h' m → News h₀ L h' ((a, tup3 g.1 t g.2.1 u g.2.2 v) :: news) → Q (.ref a) { s with heap := h', toks := tk' }) :
    wpAny (MM w) A (call (.ref f) vs) Q E s :=
  call_T C B F N X T hA hf hke hd hu hp fun r h' tk' F' N' st po => by
    obtain ⟨a, x, t, y, u, z, v, rfl, hn, ho, rfl⟩ := po
    exact h a t u v h' tk' F' (news_cons F N' hn ho)
theorem call_T3e {k dp un : Nat} {gd : Option (List Code)} {outer : List Env} {w : World} {f : Addr} {vs : List Value} {pre : Heap → Prop} {g g' : UInt64 × UInt64 × UInt64} {A₀ A : Around} {base h₀ : Heap} {s : Shared} {L : Addr} {m : Str → Option Value} {news : List (Addr × Obj)}
    {mean : ExcName → Option Value} {mg mb : Str → Option Value} {env : Env} {Q E : Value → Shared → Prop}
    (C : Tells k w f vs pre (Tup3 g)) (e : g = g') (B : Below A₀ base outer h₀) (F : Fr h₀ L s.heap m) (N : News h₀ L s.heap news) (X : (hd.heap_39 w.params).In h₀) (T : Top hd.view_39 (looseW hd.view_39 []) mean mg mb h₀)
    (hA : A = amb dp un gd (env :: outer)) (hf : env.frame = some L) (hke : env.scope.kind = .function) (hd : dp + k < 1000) (hu : un + 16 * k < 9900) (hp : pre s.heap)
    (h : ∀ a t u v h' tk', Fr h₀ L h' m → News h₀ L h' ((a, tup3 g'.1 t g'.2.1 u g'.2.2 v) :: news) → Q (.ref a) { s with heap := h', toks := tk' }) :
    wpAny (MM w) A (call (.ref f) vs) Q E s := by
  subst e
  exact call_T3 C B F N X T hA hf hke hd hu hp h
theorem fact_at {n : Int} (h0 : 0 ≤ n) (h1 : n < 16) : fact16 n = true := List.all_eq_true.mp fact16_all n (in16 h0 h1)
theorem fact_inf {n : Int} (h0 : 0 ≤ n) (h1 : n < 16) : Float64.isInf (hueF n) = false := by
  have h := fact_at h0 h1
  unfold fact16 at h
  simp only [Bool.and_eq_true, Bool.not_eq_true'] at h
  exact h.1.1
theorem fact_hsv {n : Int} (h0 : 0 ≤ n) (h1 : n < 16) : hsvOk (hueF n) = true := by
  have h := fact_at h0 h1
  unfold fact16 at h
  simp only [Bool.and_eq_true, Bool.not_eq_true'] at h
  exact h.1.2
theorem fact_hls {n : Int} (h0 : 0 ≤ n) (h1 : n < 16) (p b : Bool) : hlsOk (rgbT b p n).1 (rgbT b p n).2.1 (rgbT b p n).2.2 = true ∧ hlsF (rgbT b p n).1 (rgbT b p n).2.1 (rgbT b p n).2.2 = (hueF (turnN b n), if p == b then c14 else c34, c1) := by
  have h := fact_at h0 h1
  unfold fact16 at h
  simp only [Bool.and_eq_true] at h
  have h2 := List.all_eq_true.mp h.2 p (by cases p <;> simp)
  have h3 := List.all_eq_true.mp h2 b (by cases b <;> simp)
  simp only [Bool.and_eq_true, decide_eq_true_eq] at h3
  exact h3
theorem hsv_t {n : Int} : hsvF (Float64.ofFrac (decide (n < 0) != decide ((16 : Int) < 0)) n.natAbs (Int.natAbs 16)) 4602678819172646912 4607182418800017408 = rgbF true n := rfl
theorem hsv_f {n : Int} : hsvF (Float64.ofFrac (decide (n < 0) != decide ((16 : Int) < 0)) n.natAbs (Int.natAbs 16)) 4607182418800017408 4602678819172646912 = rgbF false n := rfl
theorem hls_tt {n : Int} (h0 : 0 ≤ n) (h1 : n < 16) : hlsF (Float64.sub 4607182418800017408 (rgbF true n).1) (Float64.sub 4607182418800017408 (rgbF true n).2.1) (Float64.sub 4607182418800017408 (rgbF true n).2.2) = (hueF (turnN true n), c14, c1) := (fact_hls h0 h1 true true).2
theorem hls_ft {n : Int} (h0 : 0 ≤ n) (h1 : n < 16) : hlsF (Float64.sub 4607182418800017408 (rgbF false n).1) (Float64.sub 4607182418800017408 (rgbF false n).2.1) (Float64.sub 4607182418800017408 (rgbF false n).2.2) = (hueF (turnN true n), c34, c1) := (fact_hls h0 h1 false true).2
theorem hls_tf {n : Int} (h0 : 0 ≤ n) (h1 : n < 16) : hlsF (rgbF true n).1 (rgbF true n).2.1 (rgbF true n).2.2 = (hueF (turnN false n), c34, c1) := (fact_hls h0 h1 true false).2
theorem hls_ff {n : Int} (h0 : 0 ≤ n) (h1 : n < 16) : hlsF (rgbF false n).1 (rgbF false n).2.1 (rgbF false n).2.2 = (hueF (turnN false n), c14, c1) := (fact_hls h0 h1 false false).2
theorem hls_t1 {p : Bool} {n : Int} (h0 : 0 ≤ n) (h1 : n < 16) : hlsOk (Float64.sub 4607182418800017408 (rgbF p n).1) (Float64.sub 4607182418800017408 (rgbF p n).2.1) (Float64.sub 4607182418800017408 (rgbF p n).2.2) = true := (fact_hls h0 h1 p true).1
theorem hls_f1 {p : Bool} {n : Int} (h0 : 0 ≤ n) (h1 : n < 16) : hlsOk (rgbF p n).1 (rgbF p n).2.1 (rgbF p n).2.2 = true := (fact_hls h0 h1 p false).1
noncomputable def fact16b (n : Int) : Bool := !Float64.isNaN (Float64.mul (hueF n) (Float64.ofInt 16)) && !Float64.isInf (Float64.mul (hueF n) (Float64.ofInt 16)) &&
  decide (PySem.Flt.toInt Float64.truncOf (Float64.mul (hueF n) (Float64.ofInt 16)) = n) && (Float64.cmpInt (Float64.mul (hueF n) (Float64.ofInt 16)) n == some .eq)
theorem fact16b_all : all16.all fact16b = true := by decide +kernel
theorem factb_at {n : Int} (h0 : 0 ≤ n) (h1 : n < 16) : Float64.isNaN (Float64.mul (hueF n) (Float64.ofInt 16)) = false ∧ Float64.isInf (Float64.mul (hueF n) (Float64.ofInt 16)) = false ∧
    PySem.Flt.toInt Float64.truncOf (Float64.mul (hueF n) (Float64.ofInt 16)) = n ∧ (Float64.cmpInt (Float64.mul (hueF n) (Float64.ofInt 16)) n == some .eq) = true := by
  have h := List.all_eq_true.mp fact16b_all n (in16 h0 h1)
  unfold fact16b at h
  simp only [Bool.and_eq_true, Bool.not_eq_true', decide_eq_true_eq] at h
  exact ⟨h.1.1.1, h.1.1.2, h.1.2, h.2⟩
theorem turnN_lo {b : Bool} {n : Int} (h0 : 0 ≤ n) (_ : n < 16) : 0 ≤ turnN b n := by unfold turnN; split <;> omega
theorem turnN_hi {b : Bool} {n : Int} (_ : 0 ≤ n) (h1 : n < 16) : turnN b n < 16 := by unfold turnN; split <;> omega
noncomputable abbrev abcT : Str := Str.ofString "abcdefghijklmnop"
theorem abc_len : abcT.length = 16 := by decide +kernel
noncomputable def signS (k : Int) : Str := ⟨#[97 + k.toNat]⟩
noncomputable def signU (k : Int) : Str := ⟨#[65 + k.toNat]⟩
theorem sign_all : (all16.all fun k => decide (Txt.item abcT k = signS k) && decide (Txt.upper (signS k) = signU k)) = true := by decide +kernel
theorem sign_item {k : Int} (h0 : 0 ≤ k) (h1 : k < 16) : Txt.item abcT k = signS k := by
  have h := List.all_eq_true.mp sign_all k (in16 h0 h1)
  simp only [Bool.and_eq_true, decide_eq_true_eq] at h
  exact h.1
theorem sign_upper {k : Int} (h0 : 0 ≤ k) (h1 : k < 16) : Txt.upper (signS k) = signU k := by
  have h := List.all_eq_true.mp sign_all k (in16 h0 h1)
  simp only [Bool.and_eq_true, decide_eq_true_eq] at h
  exact h.2
section
variable {prog : Program} {w : World} {A : Around} {E : Value → Shared → Prop} {s : Shared} {value slice : Expr} {t u : Tok} {Q : Value → Shared → Prop} {n : Int} {b : Bool}
theorem sub_sign (h0 : 0 ≤ n) (h1 : n < 16)
    (h : Q (.str (signS (turnN b n)) s.toks) { s with toks := s.toks + 1 })
    (hs : ∀ i, subscripted slice false (.str abcT t) (.int i u) = operate [.str abcT t, .int i u] (getItem (.str abcT t) (.int i u)))
    (ht : ∀ r, letTemporaryGo value (.str abcT t) r = pure ()) :
    wpAny (model prog w) A (subscriptTail value slice (.str abcT t) (.int (turnN b n) u)) Q E s := by
  have a0 := turnN_lo (b := b) h0 h1
  have a1 := turnN_hi (b := b) h0 h1
  have hl := abc_len
  exact item_str (by unfold fitsSsize; simp only [Bool.not_eq_true', Bool.or_eq_false_iff, decide_eq_false_iff_not]; omega) (by omega) (by omega) (fun _ => by rw [sign_item a0 a1]; exact h) (hs _) ht
theorem int_place (hA : A.handled = none) (h0 : 0 ≤ n) (h1 : n < 16) (h : Q (.int (turnN b n) s.toks) { s with toks := s.toks + 1 }) : wpAny (model prog w) A (call (.type "int") [.float (Float64.mul (hueF (turnN b n)) (Float64.ofInt 16)) t]) Q E s := by
  have f := factb_at (turnN_lo (b := b) h0 h1) (turnN_hi (b := b) h0 h1)
  exact PySem.Flt.call_int_float3 hA (fun e => absurd (f.1.symm.trans e) Bool.false_ne_true) (fun e => absurd (f.2.1.symm.trans e) Bool.false_ne_true) fun _ => by rw [f.2.2.1]; exact h
theorem ne_place (h0 : 0 ≤ n) (h1 : n < 16) (h : Q (.bool false) s) : wpAny (model prog w) A (compareOp .NotEq (.float (Float64.mul (hueF (turnN b n)) (Float64.ofInt 16)) t) (.int (turnN b n) u)) Q E s := by
  have f := factb_at (turnN_lo (b := b) h0 h1) (turnN_hi (b := b) h0 h1)
  refine ne_fi ?_
  have e : (Float64.cmpInt (Float64.mul (hueF (turnN b n)) (Float64.ofInt 16)) (turnN b n) != some Ordering.eq) = false := by rw [bne, f.2.2.2]; rfl
  rw [e]; exact h
theorem ne_closed {x y : UInt64} {r : Bool} (e : (Float64.cmp x y != some Ordering.eq) = r) (h : Q (.bool r) s) : wpAny (model prog w) A (compareOp .NotEq (.float x t) (.float y u)) Q E s := AutoFloatOps.ne_0 (by rw [e]; exact h)
theorem eq_closed {x y : UInt64} {r : Bool} (e : (Float64.cmp x y == some Ordering.eq) = r) (h : Q (.bool r) s) : wpAny (model prog w) A (compareOp .Eq (.float x t) (.float y u)) Q E s := AutoFloatOps.eq_0 (by rw [e]; exact h)
theorem upper_sign (h0 : 0 ≤ n) (h1 : n < 16) (h : Q (.str (signU (turnN b n)) s.toks) { s with toks := s.toks + 1 }) : wpAny (model prog w) A (call (.builtin "str.upper") [.str (signS (turnN b n)) t]) Q E s :=
  SCL.upper (by show 1 ≤ 5592405; decide) fun _ => by rw [sign_upper (turnN_lo (b := b) h0 h1) (turnN_hi (b := b) h0 h1)]; exact h
end
theorem light_facts : (Float64.cmp c1 4607182418800017408 != some Ordering.eq) = false ∧ (Float64.cmp c34 4604930618986332160 == some Ordering.eq) = true ∧ (Float64.cmp c14 4604930618986332160 == some Ordering.eq) = false ∧ (Float64.cmp c14 4598175219545276416 == some Ordering.eq) = true := by decide +kernel
noncomputable def ColOk (c : Int × Int) : Prop := 0 ≤ c.1 ∧ c.1 < 16 ∧ (c.2 = 0 ∨ c.2 = 1)
noncomputable def IsCol (h : Heap) (c : Int × Int) (v : Value) : Prop := ∃ a t u, v = .ref a ∧ IsTup h a #[.int c.1 t, .int c.2 u]
noncomputable def readN (b : Bool) (c : Int × Int) : Nat := (if (c.2 == 1) != b then 65 else 97) + (turnN b c.1).toNat
noncomputable def readT (b : Bool) (cs : List (Int × Int)) : Str := ⟨(cs.map (readN b)).toArray⟩
theorem readT_len (b : Bool) (cs : List (Int × Int)) : (readT b cs).length = cs.length := by simp [readT, Str.length]
theorem signS_len (k : Int) : (signS k).length = 1 := rfl
theorem signU_len (k : Int) : (signU k).length = 1 := rfl
theorem read_snoc {b : Bool} {cs : List (Int × Int)} {i : Nat} {c : Int × Int} (h : cs[i]? = some c) : readT b (cs.take (i + 1)) = readT b (cs.take i) ++ (⟨#[readN b c]⟩ : Str) := by
  rw [List.take_add_one, h]
  simp only [readT, List.map_append, Option.toList, List.map_cons, List.map_nil]
  show _ = (⟨_ ++ _⟩ : Str)
  simp
theorem read_e1 {b : Bool} {c : Int × Int} (hp : c.2 = 1) (hb : b = true) : signS (turnN true c.1) = ⟨#[readN b c]⟩ := by subst hb; simp [signS, readN, hp]
theorem read_e2 {b : Bool} {c : Int × Int} (hp : c.2 = 1) (hb : b = false) : signU (turnN false c.1) = ⟨#[readN b c]⟩ := by subst hb; simp [signU, readN, hp]
theorem read_e3 {b : Bool} {c : Int × Int} (hp : c.2 ≠ 1) (hb : b = true) : signU (turnN true c.1) = ⟨#[readN b c]⟩ := by subst hb; simp [signU, readN, hp]
theorem read_e4 {b : Bool} {c : Int × Int} (hp : c.2 ≠ 1) (hb : b = false) : signS (turnN false c.1) = ⟨#[readN b c]⟩ := by subst hb; simp [signS, readN, hp]
theorem t_read (w : World) (l : Addr) (vs : List Value) (cs : List (Int × Int)) (b : Bool) : Tells 4 w 56 [.ref l, .bool b] (fun h => h.IsList l vs.toArray ∧ ItemsAre (IsCol h) vs cs ∧ (∀ c ∈ cs, ColOk c) ∧ cs.length ≤ 100) (fun _ r _ => ∃ t, r = .str (readT b cs) t) := by
  k_with_none
  k_with "execs cons" => ((try k_fold); refine exe_cons ?_; intro q9)
  k_with "SeqC" => (first | refine seqC_next ?_ | refine seqC_ret ?_)
  k_with "storeName" => (k_here; k_dflt (refine store_T (s₀ := s) (by k_asm) (by k_asm) ?_ (by rfl) (by rfl)); k_whole; intro hK9 tkK9 mK9 FK9 NK9; (try k_sweep))
  k_with "storeName" => (k_here; (with_reducible show wpAny _ _ (storeName _ _ (Value.str _ _)) _ _ _); k_dflt (refine store_S (s₀ := s) (by k_asm) (by k_asm) ?_ (by rfl) (by rfl)); k_whole; intro hK9 tkK9 tK9 mK9 FK9 NK9; (try k_sweep))
  k_with "storeName" => (k_here; (with_reducible show wpAny _ _ (storeName _ _ (Value.int _ _)) _ _ _); k_dflt (refine store_I (s₀ := s) (by k_asm) (by k_asm) ?_ (by rfl) (by rfl)); k_whole; intro hK9 tkK9 tK9 mK9 FK9 NK9; (try k_sweep))
  k_with "eval Name" => (k_here; k_dflt (refine name_L (by k_asm) (by exact rfl) ?_ (by rfl) (by rfl) (by decide)); k_whole)
  k_with "exec For Tuple Name cons nil" => (refine stop_ ?_)
  k_with "call ref" => ((k_here; (with_reducible show wpAny _ _ (call (Value.ref 35) _) _ _ _); k_dflt (refine call_T3e (t_hsv _ _ _ _ _ _ _) (by walk_at "HSV0") (by k_asm) (by k_asm) (by k_asm) (by k_asm) (by k_asm) (by exact rfl) (by exact rfl) (by exact rfl) (by (dsimp only [amb]; omega)) (by (dsimp only [amb]; omega)) (by walk_at "HSV1") ?_; k_whole); intro a' t' u' v' h' tk' F' N'; (try dsimp only)))
  k_with "call ref" => ((k_here; (with_reducible show wpAny _ _ (call (Value.ref 28) _) _ _ _); k_dflt (refine call_T3e (t_hls _ _ _ _ _ _ _) (by walk_at "HLS0") (by k_asm) (by k_asm) (by k_asm) (by k_asm) (by k_asm) (by exact rfl) (by exact rfl) (by exact rfl) (by (dsimp only [amb]; omega)) (by (dsimp only [amb]; omega)) (by walk_at "HLS1") ?_; k_whole); intro a' t' u' v' h' tk' F' N'; (try dsimp only)))
  k_with "HSV0" => (first | exact hsv_t | exact hsv_f)
  k_with "HSV1" => (exact fact_hsv (by assumption) (by assumption))
  k_with "HLS0" => (first | exact hls_tt (by assumption) (by assumption) | exact hls_ft (by assumption) (by assumption) | exact hls_tf (by assumption) (by assumption) | exact hls_ff (by assumption) (by assumption))
  k_with "HLS1" => (first | exact hls_t1 (by assumption) (by assumption) | exact hls_f1 (by assumption) (by assumption))
  k_with "subscriptTail" => (((with_reducible show wpAny _ _ (subscriptTail _ _ (Value.str _ _) (Value.int (turnN _ _) _)) _ _ _); with_unfolding_all refine' sub_sign (by assumption) (by assumption) ?_ (fun _ => by with_unfolding_all rfl) (fun _ => by with_unfolding_all rfl)))
  k_with "call type:int" => (((with_reducible show wpAny _ _ (call _ [Value.float _ _]) _ _ _); refine int_place rfl (by assumption) (by assumption) ?_))
  k_with "compareOp NotEq float int" => ((refine ne_place (by assumption) (by assumption) ?_))
  k_with "compareOp NotEq float float" => ((refine ne_closed light_facts.1 ?_))
  k_with "compareOp Eq float float" => ((first | refine eq_closed light_facts.2.1 ?_ | refine eq_closed light_facts.2.2.1 ?_ | refine eq_closed light_facts.2.2.2 ?_))
  k_with "call builtin:str.upper" => ((refine upper_sign (by assumption) (by assumption) ?_))
  k_with "binaryOp Add str str" => (((refine SBL.add (hsz := (by walk_at "SIZE")) ?_); intro _ _ _))
  k_with "SIZE" => ((simp only [signS_len, signU_len]; have hz := sizeLine_eq; omega))
  refine' tells_L ?k6 ?k7 ?k9 ?kB ?c2 ?c3 ?c4 ?c5 ?_
  (case k6 => k_is); (case k7 => k_is); (case k9 => exact fun _ => BindsTo.of_eq rfl); (case c5 => decide); (case kB => exact locs rfl); (case c2 => exact rfl); (case c3 => exact rfl); (case c4 => exact rfl)
  intro dp un gd envs base s L h₁ tk mean mg mb hdp hun hp B' m9 F' N' X' T' M9 env9 A9 T9
  obtain ⟨hl, hi, hc, hlen⟩ := hp
  (try dsimp only)
  k_steps
  unfold Stop
  rename Fr _ _ _ _ => F1
  rename News _ _ _ _ => N1
  refine for_base (L := L) (J := fun i m news => news = [] ∧ m (Str.ofString "row") = some (.ref l) ∧ m (Str.ofString "turned") = some (.bool b) ∧ ∃ t, m (Str.ofString "text") = some (.str (readT b (cs.take i)) t)) rfl rfl hl F1 N1 ?_ ?_ ?_ ?_
  · exact ⟨rfl, rfl, rfl, _, rfl⟩
  · intro P hP
    refine ld F1 rfl hP
  · intro I i v m₁ news₁ h tk o hv hJ hne F2 N2
    obtain ⟨rfl, hm1, hm2, t, hm3⟩ := hJ
    obtain ⟨c, hci, a, t1, u1, rfl, hcol⟩ := hi.2 i v hv
    clear F1 N1
    have F3 := fr_over [(Str.ofString "row", .ref l), (Str.ofString "turned", .bool b), (Str.ofString "text", .str (readT b (cs.take i)) t)] F2 (by simp [hm1, hm2, hm3])
    simp only [over] at F3
    clear F2
    have hln : (readT b (cs.take i)).length ≤ 100 := by rw [readT_len, List.length_take]; omega
    obtain ⟨hc0, hc1, hc2⟩ := hc c (List.mem_of_getElem? hci)
    k_steps
    all_goals try (exfalso; exact Bool.false_ne_true ((fact_inf hc0 hc1).symm.trans (by assumption)); done)
    all_goals (refine Turn.end0 (by assumption) (by assumption) (by k_mem) ⟨rfl, rfl, rfl, _, congrArg some (congrArg (Value.str · _) ?_)⟩)
    all_goals rw [read_snoc hci]
    all_goals refine congrArg (_ ++ ·) ?_
    all_goals first | exact read_e1 (by assumption) (by assumption) | exact read_e2 (by assumption) (by assumption) | exact read_e3 (by assumption) (by assumption) | exact read_e4 (by assumption) (by assumption)
  · intro m' news' h' tk hJ F2 N2
    obtain ⟨rfl, hm1, hm2, t, hm3⟩ := hJ
    rw [hi.1, List.take_length] at hm3
    have F3 := fr_over [(Str.ofString "text", .str (readT b cs) t)] F2 (by simp [hm3])
    simp only [over] at F3
    clear F2 F1 N1
    dsimp only
    k_steps
    all_goals exact done_ (by assumption) ⟨_, rfl⟩
end Mine
end
section
open PySem PySem.W PyProof.Rows PySem.Calls
set_option Elab.async false
set_option maxRecDepth 100000
namespace Mine
noncomputable def Has (ex : List (Addr × Obj)) (h : Heap) : Prop := ∀ p ∈ ex, h.get? p.1 = some p.2
noncomputable def New (h h' : Heap) (ex : List (Addr × Obj)) : Prop := ∀ p ∈ ex, h.get? p.1 = none ∧ h'.get? p.1 = some p.2
noncomputable def LIn (ex : List (Addr × Obj)) (v : Value) (vs : List Value) : Prop := ∃ (a : Addr) (n : Nat), v = .ref a ∧ (a, W.listOf vs.toArray n) ∈ ex
noncomputable def TIn (ex : List (Addr × Obj)) (c : Int × Int) (v : Value) : Prop := ∃ a o n t u, v = .ref a ∧ (a, o) ∈ ex ∧ o.cls = .type "tuple" ∧ o.data = .seq #[.int c.1 t, .int c.2 u] n
noncomputable def RowIn (ex : List (Addr × Obj)) (cs : List (Int × Int)) (v : Value) : Prop := ∃ vs, LIn ex v vs ∧ ItemsAre (TIn ex) vs cs
noncomputable def ShIn (ex : List (Addr × Obj)) (ks : List Int) (v : Value) : Prop := ∃ vs, LIn ex v vs ∧ IntsAre vs ks
theorem ItemsAre.imp {I : Type} {P Q : I → Value → Prop} {vs : List Value} {items : List I} (h : PyProof.Rows.ItemsAre P vs items) (f : ∀ i v, P i v → Q i v) : PyProof.Rows.ItemsAre Q vs items :=
  ⟨h.1, fun i v e => let ⟨a, x, y⟩ := h.2 i v e; ⟨a, x, f a v y⟩⟩
theorem LIn.mono {ex ex' : List (Addr × Obj)} (hs : ∀ p ∈ ex, p ∈ ex') {v : Value} {vs : List Value} (h : LIn ex v vs) : LIn ex' v vs := let ⟨a, n, e, m⟩ := h; ⟨a, n, e, hs _ m⟩
theorem TIn.mono {ex ex' : List (Addr × Obj)} (hs : ∀ p ∈ ex, p ∈ ex') {c : Int × Int} {v : Value} (h : TIn ex c v) : TIn ex' c v := let ⟨a, o, n, t, u, e, m, r⟩ := h; ⟨a, o, n, t, u, e, hs _ m, r⟩
theorem RowIn.mono {ex ex' : List (Addr × Obj)} (hs : ∀ p ∈ ex, p ∈ ex') {cs : List (Int × Int)} {v : Value} (h : RowIn ex cs v) : RowIn ex' cs v := let ⟨vs, l, i⟩ := h; ⟨vs, l.mono hs, ItemsAre.imp i fun _ _ x => x.mono hs⟩
theorem ShIn.mono {ex ex' : List (Addr × Obj)} (hs : ∀ p ∈ ex, p ∈ ex') {ks : List Int} {v : Value} (h : ShIn ex ks v) : ShIn ex' ks v := let ⟨vs, l, i⟩ := h; ⟨vs, l.mono hs, i⟩
theorem LIn.list {ex : List (Addr × Obj)} {h : Heap} (H : Has ex h) {v : Value} {vs : List Value} (x : LIn ex v vs) : ∃ a, v = .ref a ∧ h.IsList a vs.toArray :=
  let ⟨a, n, e, m⟩ := x; ⟨a, e, _, H _ m, rfl, n, rfl⟩
theorem TIn.col {ex : List (Addr × Obj)} {h : Heap} (H : Has ex h) {c : Int × Int} {v : Value} (x : TIn ex c v) : IsCol h c v :=
  let ⟨a, o, n, t, u, e, m, k, d⟩ := x; ⟨a, t, u, e, o, H _ m, k, n, d⟩
theorem RowIn.row {ex : List (Addr × Obj)} {h : Heap} (H : Has ex h) {cs : List (Int × Int)} {v : Value} (x : RowIn ex cs v) : ∃ a vs, v = .ref a ∧ h.IsList a vs.toArray ∧ PyProof.Rows.ItemsAre (IsCol h) vs cs :=
  let ⟨vs, l, i⟩ := x; let ⟨a, e, r⟩ := l.list H; ⟨a, vs, e, r, ItemsAre.imp i fun _ _ y => y.col H⟩
theorem new_of {h₀ h' : Heap} {L : Addr} {news ex : List (Addr × Obj)} (N : News h₀ L h' news) (hs : ∀ p ∈ ex, p ∈ news) : New h₀ h' ex := fun p hp => ⟨(N p (hs p hp)).2.2, (N p (hs p hp)).1⟩

noncomputable def sharesL (free : Int) : Nat → List (List Int)
  | 0 => if free = 0 then [[]] else []
  | 1 => if 0 ≤ free then [[free]] else []
  | _ => (List.range (free + 1).toNat).map fun (i : Nat) => [(i : Int), free - (i : Int)]
noncomputable def PostSh (free : Int) (g : Nat) (h : Heap) (r : Value) (h' : Heap) : Prop := ∃ ex, New h h' ex ∧ ∃ vs, LIn ex r vs ∧ ItemsAre (ShIn ex) vs (sharesL free g)
end Mine
end
section
open PySem PySem.W PyProof.Rows PySem.Calls
set_option Elab.async false
set_option maxRecDepth 100000
set_option maxHeartbeats 2000000
namespace Mine
theorem off_Nm : True := by
  w_top off
  trivial
theorem tups_of {h₀ : Heap} {l : Addr} {vs : List Value} {cs : List (Int × Int)} (hl : h₀.IsList l vs.toArray) (hit : ItemsAre (IsCol h₀) vs cs) :
    ∃ tups : List (Addr × Obj), (∀ p ∈ tups, h₀.get? p.1 = some p.2) ∧ (∃ o n, (l, o) ∈ tups ∧ o.cls = .type "list" ∧ o.data = .seq vs.toArray n) ∧
      ∀ (i : Nat) (v : Value), vs[i]? = some v → ∃ (t : Addr) (ot : Obj) (v₁ v₂ : Value) (nt : Nat), v = .ref t ∧ (t, ot) ∈ tups ∧ ot.cls = .type "tuple" ∧ ot.data = .seq #[v₁, v₂] nt ∧ ∃ (c : Int × Int) (t u : Tok), cs[i]? = some c ∧ v₁ = .int c.1 t ∧ v₂ = .int c.2 u := by
  obtain ⟨o, ho, hc, n, hd⟩ := hl
  refine ⟨(l, o) :: vs.filterMap (fun v => match v with | .ref a => (h₀.get? a).map (fun o => (a, o)) | _ => none), ?_, ⟨o, n, List.mem_cons_self, hc, hd⟩, ?_⟩
  · intro p hp
    rcases List.mem_cons.mp hp with rfl | hp
    · exact ho
    · obtain ⟨v, hv, e⟩ := List.mem_filterMap.mp hp
      clear hv
      split at e
      · rename_i a
        cases q : h₀.get? a with
        | none => rw [q] at e; cases e
        | some o => rw [q] at e; cases e; exact q
      · cases e
  · intro i v hv
    obtain ⟨c, hci, a, t, u, rfl, ot, hot, hct, nt, hdt⟩ := hit.2 i v hv
    refine ⟨a, ot, _, _, nt, rfl, List.mem_cons_of_mem _ (List.mem_filterMap.mpr ⟨.ref a, List.mem_of_getElem? hv, ?_⟩), hct, hdt, c, t, u, hci, rfl, rfl⟩
    simp only [hot, Option.map_some]
theorem fill_Nm : (PySem.Challenge.rw_pe0158_01.prog = PySem.Challenge.rw_pe0158_01.prog) ∧ hd.heap_39 = hd.heap_39 := by
  k_fill
  exact ⟨rfl, rfl⟩
noncomputable abbrev signsT : Str := Str.ofString "abcdefghijklmnopABCDEFGHIJKLMNOP"
noncomputable def signN (k : Int) : Nat := if k < 16 then 97 + k.toNat else 49 + k.toNat
theorem signs_len : signsT.length = 32 := by decide +kernel
theorem signs_all : ((List.range 32).all fun k => decide (Txt.item signsT (k : Int) = ⟨#[signN (k : Int)]⟩)) = true := by decide +kernel
theorem signs_at {k : Int} (h0 : 0 ≤ k) (h1 : k < 32) : Txt.item signsT k = ⟨#[signN k]⟩ := by
  obtain ⟨n, rfl⟩ := Int.eq_ofNat_of_zero_le h0
  have h := List.all_eq_true.mp signs_all n (List.mem_range.mpr (by omega))
  simpa only [decide_eq_true_eq] using h
theorem fm16 (x : Int) : x.fmod 16 = x % 16 := Int.fmod_eq_emod_of_nonneg _ (by decide)
section
variable {prog : Program} {w : World} {A : Around} {E : Value → Shared → Prop} {s : Shared} {value slice : Expr} {t u : Tok} {Q : Value → Shared → Prop} {k : Int}
theorem sub_signs (h0 : 0 ≤ k) (h1 : k < 32)
    (h : Q (.str ⟨#[signN k]⟩ s.toks) { s with toks := s.toks + 1 })
    (hs : ∀ i, subscripted slice false (.str signsT t) (.int i u) = operate [.str signsT t, .int i u] (getItem (.str signsT t) (.int i u)))
    (ht : ∀ r, letTemporaryGo value (.str signsT t) r = pure ()) :
    wpAny (model prog w) A (subscriptTail value slice (.str signsT t) (.int k u)) Q E s := by
  have hl := signs_len
  exact item_str (by unfold fitsSsize; simp only [Bool.not_eq_true', Bool.or_eq_false_iff, decide_eq_false_iff_not]; omega) (by omega) (by omega) (fun _ => by rw [signs_at h0 h1]; exact h) (hs _) ht
end
theorem strs_of {b : Bool} {cs : List (Int × Int)} : ∀ {ys : List Value}, ys.length = cs.length → (∀ (i : Nat) (y : Value), ys[i]? = some y → ∃ c t, cs[i]? = some c ∧ y = .str ⟨#[readN b c]⟩ t) → StrsAre ys (cs.map fun c => (⟨#[readN b c]⟩ : Str)) := by
  induction cs with
  | nil => intro ys hl _; rw [List.length_eq_zero_iff.mp hl]; exact .nil
  | cons c cs ih =>
    intro ys hl h
    cases ys with
    | nil => cases hl
    | cons y ys =>
      obtain ⟨c', t, hc, rfl⟩ := h 0 y rfl
      cases hc
      exact .cons _ _ (ih (by simpa using hl) fun i y hy => h (i + 1) y hy)
theorem join_signs (b : Bool) : ∀ cs : List (Int × Int), Txt.join (Str.ofString "") (cs.map fun c => (⟨#[readN b c]⟩ : Str)) = readT b cs := by
  have e : (Str.ofString "") = ⟨#[]⟩ := by decide +kernel
  rw [e]
  intro cs
  rw [eq_of_beq (join_plain_closes _ _)]
  induction cs with
  | nil => rfl
  | cons c cs ih =>
    cases cs with
    | nil => simp [Str.join, readT]
    | cons c' cs =>
      simp only [List.map_cons] at ih ⊢
      show (⟨#[readN b c]⟩ : Str) ++ ⟨#[]⟩ ++ Str.join _ _ = _
      rw [ih]
      simp only [readT, List.map_cons]
      show (⟨_ ++ _ ++ _⟩ : Str) = _
      simp
theorem sums_le (b : Bool) : ∀ cs : List (Int × Int), ((cs.map fun c => (⟨#[readN b c]⟩ : Str)).map (·.length)).sum = cs.length
  | [] => rfl
  | c :: cs => by
    have := sums_le b cs
    simp only [List.map_cons, List.sum_cons, List.length_cons, this]
    show 1 + _ = _
    omega
theorem sg1 {n : Int} (h0 : 0 ≤ n) (h1 : n < 16) : signN ((n + 8) % 16 + 16 * (1 - 0)) = readN true (n, 0) := by
  unfold signN readN turnN; rw [if_neg (by omega)]; simp; omega
theorem sg2 {n : Int} (h0 : 0 ≤ n) (h1 : n < 16) : signN ((n + 8) % 16 + 16 * (1 - 1)) = readN true (n, 1) := by
  unfold signN readN turnN; rw [if_pos (by omega)]; simp
theorem sg3 {n : Int} (h0 : 0 ≤ n) (h1 : n < 16) : signN (n + 16 * 0) = readN false (n, 0) := by
  unfold signN readN turnN; rw [if_pos (by omega)]; simp
theorem sg4 {n : Int} (h0 : 0 ≤ n) (h1 : n < 16) : signN (n + 16 * 1) = readN false (n, 1) := by
  unfold signN readN turnN; rw [if_neg (by omega)]; simp; omega
theorem t_named (w : World) (l : Addr) (vs : List Value) (cs : List (Int × Int)) (b : Bool) :
    Tells 4 w 61 [.ref l, .bool b] (fun h => h.IsList l vs.toArray ∧ ItemsAre (IsCol h) vs cs ∧ (∀ c ∈ cs, ColOk c) ∧ cs.length ≤ 100) (fun _ r _ => ∃ t, r = .str (readT b cs) t) := by
  k_with_none
  k_with "execs cons" => ((try k_fold); refine exe_cons ?_; intro q9)
  k_with "SeqC" => (first | refine seqC_next ?_ | refine seqC_ret ?_)
  k_with "storeName" => (k_here; k_dflt (refine store_T (s₀ := s) (by k_asm) (by k_asm) ?_ (by rfl) (by rfl)); k_whole; intro hK9 tkK9 mK9 FK9 NK9; (try k_sweep))
  k_with "storeName" => (k_here; (with_reducible show wpAny _ _ (storeName _ _ (Value.str _ _)) _ _ _); k_dflt (refine store_S (s₀ := s) (by k_asm) (by k_asm) ?_ (by rfl) (by rfl)); k_whole; intro hK9 tkK9 tK9 mK9 FK9 NK9; (try k_sweep))
  k_with "storeName" => (k_here; (with_reducible show wpAny _ _ (storeName _ _ (Value.int _ _)) _ _ _); k_dflt (refine store_I (s₀ := s) (by k_asm) (by k_asm) ?_ (by rfl) (by rfl)); k_whole; intro hK9 tkK9 tK9 mK9 FK9 NK9; (try k_sweep))
  k_with "eval Name" => (k_here; k_dflt (refine name_L (by k_asm) (by exact rfl) ?_ (by rfl) (by rfl) (by decide)); k_whole)
  k_with "call builtin:str.join" => (((with_reducible show wpAny _ _ (call (Value.builtin "str.join") [Value.str _ _, Value.ref _]) _ _ _); refine join_listC (News.isList (by k_asm) (by k_mem)) (by assumption) (by decide +kernel) (by simp only [List.length_map]; omega) ?_; intro _ _; (try dsimp only)))
  k_with "eval ListComp" => (refine stop_ ?_)
  k_with "subscriptTail" => (((with_reducible show wpAny _ _ (subscriptTail _ _ (Value.str _ _) (Value.int _ _)) _ _ _); (try simp only [fm16]); with_unfolding_all refine' sub_signs (by omega) (by omega) ?_ (fun _ => by with_unfolding_all rfl) (fun _ => by with_unfolding_all rfl)))
  refine' tells_LC ?k6 ?k7 ?k9 ?kB ?kD ?c2 ?c3 ?c4 ?_
  (case k6 => k_is); (case k7 => k_is); (case k9 => exact fun _ => BindsTo.of_eq rfl); (case kB => exact rfl); (case kD => decide +kernel); (case c2 => exact rfl); (case c3 => exact rfl); (case c4 => exact rfl)
  intro dp un gd envs base s L h₁ tk cells mean mg mb hdp hun hp B' F' N' Y' X' T' M9 env9 A9 T9
  obtain ⟨hl, hit, hok, hlen⟩ := hp
  obtain ⟨tups, ht, htl, htv⟩ := tups_of hl hit
  have hvl := hit.1
  k_cells Y'
  (try simp only [List.cons_append, List.nil_append] at N')
  (try dsimp only)
  k_steps
  all_goals unfold Stop
  all_goals refine comp_pair (R := fun i y => ∃ c t, cs[i]? = some c ∧ y = .str ⟨#[readN b c]⟩ t) rfl (by k_asm) (by k_asm) ht htl (by omega) htv (by with_unfolding_all rfl) (by decide) (by rfl) (by decide) (by rfl) (by rfl) (by decide) ?_ ?_ ?_
  · intro Q' hq
    (try dsimp only)
    k_steps
    exact hq
  · intro i v₁ v₂ hV h₁ ys I oI C oC D m₂ h g tk hC hx hx2 F N
    obtain ⟨⟨hue, pale⟩, t, u, hc, rfl, rfl⟩ := hV
    obtain ⟨a0, a1, a2⟩ := hok _ (List.mem_of_getElem? hc)
    clear hok htv htl ht hit hl
    rename (b = _) => hb
    (try dsimp only at hx hx2 a0 a1 a2)
    rcases a2 with rfl | rfl
    all_goals (try dsimp only)
    all_goals k_steps
    all_goals (try dsimp only)
    · exact elt_ ⟨_, _, hc, by rw [sg1 a0 a1, hb]⟩
    · exact elt_ ⟨_, _, hc, by rw [sg2 a0 a1, hb]⟩
  · intro ys hyl hR D h tk F N
    have hst := strs_of (by omega) hR
    have hjs := join_signs b cs
    have hsl := sums_le b cs
    clear hok htv htl ht hit hl hR
    (try dsimp only)
    k_steps
    all_goals (try dsimp only)
    all_goals rw [hjs]
    all_goals exact done_ (by assumption) ⟨_, rfl⟩
  · intro Q' hq
    (try dsimp only)
    k_steps
    exact hq
  · intro i v₁ v₂ hV h₁ ys I oI C oC D m₂ h g tk hC hx hx2 F N
    obtain ⟨⟨hue, pale⟩, t, u, hc, rfl, rfl⟩ := hV
    obtain ⟨a0, a1, a2⟩ := hok _ (List.mem_of_getElem? hc)
    clear hok htv htl ht hit hl
    rename (b = _) => hb
    (try dsimp only at hx hx2 a0 a1 a2)
    rcases a2 with rfl | rfl
    all_goals (try dsimp only)
    all_goals k_steps
    all_goals (try dsimp only)
    · exact elt_ ⟨_, _, hc, by rw [sg3 a0 a1, hb]⟩
    · exact elt_ ⟨_, _, hc, by rw [sg4 a0 a1, hb]⟩
  · intro ys hyl hR D h tk F N
    have hst := strs_of (by omega) hR
    have hjs := join_signs b cs
    have hsl := sums_le b cs
    clear hok htv htl ht hit hl hR
    (try dsimp only)
    k_steps
    all_goals (try dsimp only)
    all_goals rw [hjs]
    all_goals exact done_ (by assumption) ⟨_, rfl⟩
end Mine
end
section
open PySem PySem.W PyProof.Rows PySem.Calls
set_option maxRecDepth 100000
namespace Mine

/-! texts as lists of signs -/
noncomputable def sL (l : List Nat) : Str := ⟨l.toArray⟩
theorem sL_len (l : List Nat) : (sL l).length = l.length := by simp [sL, Str.length]
theorem sL_inj {a b : List Nat} : sL a = sL b ↔ a = b := by
  constructor
  · intro h
    have := congrArg (fun s => s.cps.toList) h
    simpa [sL] using this
  · intro h; rw [h]
theorem sL_beq (a b : List Nat) : (sL a == sL b) = decide (a = b) := by
  by_cases h : a = b
  · subst h; simp
  · rw [decide_eq_false h]
    exact beq_eq_false_iff_ne.mpr fun e => h (sL_inj.mp e)
theorem sL_append (a b : List Nat) : sL a ++ sL b = sL (a ++ b) := by
  show (⟨_ ++ _⟩ : Str) = _
  simp [sL]
theorem sL_of (x : Str) : x = sL x.cps.toList := by simp [sL]

theorem range_pick (xs : List Nat) (lo : Nat) : ∀ k : Nat, lo + k ≤ xs.length → (List.range k).filterMap (fun i => xs[lo + i]?) = (xs.drop lo).take k
  | 0, _ => by simp
  | k + 1, h => by
    have e : xs[lo + k]? = some (xs[lo + k]'(by omega)) := List.getElem?_eq_getElem (by omega)
    rw [List.range_succ, List.filterMap_append, range_pick xs lo k (by omega), List.take_add_one, List.getElem?_drop, e]
    simp [e]
theorem pick_one (xs : List Nat) (lo hi : Nat) (h : hi ≤ xs.length) : (sliceRange (lo : Int) (hi : Int) 1).filterMap (xs.toArray[·]?) = (xs.drop lo).take (hi - lo) := by
  have hc : (if (1 : Int) > 0 then (if (lo : Int) < hi then ((hi : Int) - lo + 1 - 1) / 1 else 0) else (if (lo : Int) > hi then ((lo : Int) - hi - 1 - 1) / (-1) else 0)).toNat = hi - lo := by
    rw [if_pos (by decide)]
    split
    · rw [Int.ediv_one]; omega
    · omega
  unfold sliceRange
  simp only [hc]
  rw [List.filterMap_map]
  by_cases hlo : lo ≤ hi
  · rw [← range_pick xs lo (hi - lo) (by omega)]
    refine congrArg (List.filterMap · _) (funext fun i => ?_)
    show xs.toArray[((lo : Int) + 1 * (i : Int)).toNat]? = _
    rw [show ((lo : Int) + 1 * (i : Int)).toNat = lo + i by omega]
    simp
  · rw [show hi - lo = 0 by omega]; simp
theorem slice_is {xs : List Nat} {l u : Option Int} {lo hi : Nat} (hh : hi ≤ xs.length) (e : PySem.Builtin.Str.strSliceIndices l u 1 xs.length = sliceRange (lo : Int) (hi : Int) 1) : Txt.slice (sL xs) l u = sL ((xs.drop lo).take (hi - lo)) := by
  unfold Txt.slice
  rw [sL_len, e]
  have hp : (sliceRange (lo : Int) (hi : Int) 1).filterMap ((sL xs).cps[·]?) = (xs.drop lo).take (hi - lo) := pick_one xs lo hi hh
  rw [hp]
  split
  · rename_i hl
    have hlen : (sliceRange (lo : Int) (hi : Int) 1).length = xs.length := by simpa using hl
    have hcount : (sliceRange (lo : Int) (hi : Int) 1).length ≤ hi - lo := by
      unfold sliceRange
      simp only [List.length_map, List.length_range]
      rw [if_pos (by decide)]
      split
      · rw [Int.ediv_one]; omega
      · omega
    have : hi - lo = xs.length := by omega
    by_cases hx : xs.length = 0
    · have : xs = [] := List.length_eq_zero_iff.mp hx
      subst this; simp
    · have hlo : lo = 0 := by omega
      subst hlo
      rw [this]
      simp
  · rfl
theorem slice_from {xs : List Nat} {p : Nat} (h : p ≤ xs.length) : Txt.slice (sL xs) (some (p : Int)) none = sL (xs.drop p) := by
  rw [slice_is (lo := p) (hi := xs.length) (Nat.le_refl _)]
  · rw [List.take_of_length_le (by simp)]
  · unfold PySem.Builtin.Str.strSliceIndices
    simp only [show (1 : Int) > 0 by decide, if_true]
    rw [if_neg (by omega), show max (0 : Int) (min (p : Int) (xs.length : Int)) = p by omega]
theorem slice_to {xs : List Nat} {q : Nat} (h : q ≤ xs.length) (h0 : 0 < q) : Txt.slice (sL xs) none (some (-(q : Int))) = sL (xs.take (xs.length - q)) := by
  rw [slice_is (lo := 0) (hi := xs.length - q) (by omega)]
  · simp
  · unfold PySem.Builtin.Str.strSliceIndices
    simp only [show (1 : Int) > 0 by decide, if_true]
    rw [if_pos (by omega), show max (0 : Int) (min (-(q : Int) + (xs.length : Int)) (xs.length : Int)) = ((xs.length - q : Nat) : Int) by omega]
    rfl
theorem slice_all {xs : List Nat} : Txt.slice (sL xs) none none = sL xs := by
  rw [slice_is (lo := 0) (hi := xs.length) (Nat.le_refl _)]
  · simp
  · unfold PySem.Builtin.Str.strSliceIndices
    simp only [show (1 : Int) > 0 by decide, if_true]
    rfl
theorem seq_at {n p : Nat} (h : p < n) : seqIndex? (p : Int) n = some p := by
  unfold seqIndex?
  simp only [show ¬ ((p : Int) < 0) by omega, if_false]
  rw [if_pos (by simp; omega)]
  simp
theorem seq_back {n q : Nat} (h : q < n) : seqIndex? (-(q : Int) - 1) n = some (n - 1 - q) := by
  unfold seqIndex?
  simp only [show (-(q : Int) - 1 < 0) by omega, if_true]
  rw [if_pos (by simp; omega)]
  congr 1
  omega
theorem item_at {xs : List Nat} {p : Nat} (h : p < xs.length) : Txt.item (sL xs) (p : Int) = sL [xs[p]] := by
  unfold Txt.item Txt.charAt
  rw [sL_len, seq_at h]
  simp [sL, h]
theorem item_back {xs : List Nat} {q : Nat} (h : q < xs.length) : Txt.item (sL xs) (-(q : Int) - 1) = sL [xs[xs.length - 1 - q]] := by
  unfold Txt.item Txt.charAt
  rw [sL_len, seq_back h]
  simp [sL, show xs.length - 1 - q < xs.length by omega]
end Mine
end
section
namespace Mine
section
variable {α : Type} (c : α → α → Int)
noncomputable def ed : List α → List α → Int
  | [], ys => 2 * (ys.length : Int)
  | x :: xs, [] => 2 * ((xs.length : Int) + 1)
  | x :: xs, y :: ys => min (min (ed xs (y :: ys)) (ed (x :: xs) ys) + 2) (ed xs ys + c x y)
termination_by xs ys => xs.length + ys.length

variable {c}
theorem ed_nil (ys : List α) : ed c [] ys = 2 * (ys.length : Int) := by rw [ed]
theorem ed_nil_right (xs : List α) : ed c xs [] = 2 * (xs.length : Int) := by
  cases xs with
  | nil => rw [ed]
  | cons x xs => rw [ed, List.length_cons]; omega
theorem ed_cons (x y : α) (xs ys : List α) : ed c (x :: xs) (y :: ys) = min (min (ed c xs (y :: ys)) (ed c (x :: xs) ys) + 2) (ed c xs ys + c x y) := by rw [ed]

theorem ed_snoc (hz : ∀ x, c x x = 0) (h0 : ∀ x y, 0 ≤ c x y) (z : α) : ∀ (n : Nat) (xs ys : List α), xs.length + ys.length ≤ n → ed c (xs ++ [z]) (ys ++ [z]) = ed c xs ys := by
  intro n
  induction n with
  | zero =>
    intro xs ys h
    have h1 : xs = [] := List.length_eq_zero_iff.mp (by omega)
    have h2 : ys = [] := List.length_eq_zero_iff.mp (by omega)
    subst h1 h2
    simp only [List.nil_append, ed_cons, ed_nil, ed_nil_right, List.length_nil, List.length_cons, hz]
    omega
  | succ n ih =>
    intro xs ys h
    cases xs with
    | nil =>
      cases ys with
      | nil =>
        simp only [List.nil_append, ed_cons, ed_nil, ed_nil_right, List.length_nil, List.length_cons, hz]
        omega
      | cons y ys =>
        have i1 := ih [] ys (by simp only [List.length_nil, List.length_cons] at h ⊢; omega)
        have := h0 z y
        simp only [List.nil_append, List.cons_append, ed_cons, ed_nil, List.length_append, List.length_cons, List.length_nil] at i1 ⊢
        rw [i1]
        omega
    | cons x xs =>
      cases ys with
      | nil =>
        have i1 := ih xs [] (by simp only [List.length_nil, List.length_cons] at h ⊢; omega)
        have := h0 x z
        simp only [List.nil_append, List.cons_append, ed_cons, ed_nil_right, List.length_append, List.length_cons, List.length_nil] at i1 ⊢
        rw [i1]
        omega
      | cons y ys =>
        simp only [List.length_cons] at h
        have i1 := ih xs (y :: ys) (by simp only [List.length_cons]; omega)
        have i2 := ih (x :: xs) ys (by simp only [List.length_cons]; omega)
        have i3 := ih xs ys (by omega)
        simp only [List.cons_append] at i1 i2 ⊢
        rw [ed_cons, ed_cons, i1, i2, i3]

theorem ed_le_cons (h2 : ∀ x y, c x y ≤ 2) (x : α) (xs ys : List α) : ed c (x :: xs) ys ≤ ed c xs ys + 2 := by
  cases ys with
  | nil => simp only [ed_nil_right, List.length_cons]; omega
  | cons y ys => rw [ed_cons]; exact Int.le_trans (Int.min_le_left _ _) (Int.add_le_add_right (Int.min_le_left _ _) 2)
theorem ed_le_cons' (h2 : ∀ x y, c x y ≤ 2) (y : α) (xs ys : List α) : ed c xs (y :: ys) ≤ ed c xs ys + 2 := by
  cases xs with
  | nil => simp only [ed_nil, List.length_cons]; omega
  | cons x xs => rw [ed_cons]; exact Int.le_trans (Int.min_le_left _ _) (Int.add_le_add_right (Int.min_le_right _ _) 2)
theorem ed_cons_le (h0 : ∀ x y, 0 ≤ c x y) (h2 : ∀ x y, c x y ≤ 2) (x : α) (xs : List α) : ∀ ys : List α, ed c xs ys ≤ ed c (x :: xs) ys + 2
  | [] => by simp only [ed_nil_right, List.length_cons]; omega
  | y :: ys => by
    have i := ed_cons_le h0 h2 x xs ys
    have k := ed_le_cons' h2 y xs ys
    have l := h0 x y
    rw [ed_cons]
    omega
theorem ed_cons_le' (h0 : ∀ x y, 0 ≤ c x y) (h2 : ∀ x y, c x y ≤ 2) (y : α) (ys : List α) : ∀ xs : List α, ed c xs ys ≤ ed c xs (y :: ys) + 2
  | [] => by simp only [ed_nil, List.length_cons]; omega
  | x :: xs => by
    have i := ed_cons_le' h0 h2 y ys xs
    have k := ed_le_cons h2 x xs ys
    have l := h0 x y
    rw [ed_cons]
    omega
theorem ed_same (hz : ∀ x, c x x = 0) (h0 : ∀ x y, 0 ≤ c x y) (h2 : ∀ x y, c x y ≤ 2) (z : α) (xs ys : List α) : ed c (z :: xs) (z :: ys) = ed c xs ys := by
  rw [ed_cons, hz]
  have i := ed_cons_le h0 h2 z xs ys
  have k := ed_cons_le' h0 h2 z ys xs
  omega
theorem ed_pre (hz : ∀ x, c x x = 0) (h0 : ∀ x y, 0 ≤ c x y) (h2 : ∀ x y, c x y ≤ 2) : ∀ (p xs ys : List α), ed c (p ++ xs) (p ++ ys) = ed c xs ys
  | [], _, _ => rfl
  | z :: p, xs, ys => by rw [List.cons_append, List.cons_append, ed_same hz h0 h2, ed_pre hz h0 h2 p]
theorem ed_post (hz : ∀ x, c x x = 0) (h0 : ∀ x y, 0 ≤ c x y) : ∀ (p xs ys : List α), ed c (xs ++ p) (ys ++ p) = ed c xs ys
  | [], _, _ => by simp
  | z :: p, xs, ys => by
    rw [List.append_cons, List.append_cons ys, ed_post hz h0 p, ed_snoc hz h0 z _ xs ys (Nat.le_refl _)]
theorem ed_comm (hs : ∀ x y, c x y = c y x) : ∀ (n : Nat) (xs ys : List α), xs.length + ys.length ≤ n → ed c xs ys = ed c ys xs := by
  intro n
  induction n with
  | zero =>
    intro xs ys h
    have h1 : xs = [] := List.length_eq_zero_iff.mp (by omega)
    have h2 : ys = [] := List.length_eq_zero_iff.mp (by omega)
    subst h1 h2; rfl
  | succ n ih =>
    intro xs ys h
    cases xs with
    | nil => rw [ed_nil, ed_nil_right]
    | cons x xs =>
      cases ys with
      | nil => rw [ed_nil, ed_nil_right]
      | cons y ys =>
        simp only [List.length_cons] at h
        have i1 := ih xs (y :: ys) (by simp only [List.length_cons]; omega)
        have i2 := ih (x :: xs) ys (by simp only [List.length_cons]; omega)
        have i3 := ih xs ys (by omega)
        rw [ed_cons, ed_cons, i1, i2, i3, hs x y, Int.min_comm (ed c (y :: ys) xs)]
theorem ed_diff (h0 : ∀ x y, 0 ≤ c x y) : ∀ (n : Nat) (xs ys : List α), xs.length + ys.length ≤ n → 2 * ((ys.length : Int) - xs.length) ≤ ed c xs ys ∧ 2 * ((xs.length : Int) - ys.length) ≤ ed c xs ys := by
  intro n
  induction n with
  | zero =>
    intro xs ys h
    have h1 : xs = [] := List.length_eq_zero_iff.mp (by omega)
    have h2 : ys = [] := List.length_eq_zero_iff.mp (by omega)
    subst h1 h2; simp [ed_nil]
  | succ n ih =>
    intro xs ys h
    cases xs with
    | nil => rw [ed_nil]; simp only [List.length_nil]; omega
    | cons x xs =>
      cases ys with
      | nil => rw [ed_nil_right]; simp only [List.length_nil]; omega
      | cons y ys =>
        simp only [List.length_cons] at h
        have i1 := ih xs (y :: ys) (by simp only [List.length_cons]; omega)
        have i2 := ih (x :: xs) ys (by simp only [List.length_cons]; omega)
        have i3 := ih xs ys (by omega)
        have := h0 x y
        rw [ed_cons]
        simp only [List.length_cons] at i1 i2 ⊢
        omega
theorem ed_diag (h2 : ∀ x y, c x y ≤ 2) : ∀ (xs ys : List α), xs.length = ys.length → ed c xs ys ≤ 2 * (xs.length : Int)
  | [], [], _ => by simp [ed_nil]
  | x :: xs, y :: ys, h => by
    simp only [List.length_cons] at h
    have i := ed_diag h2 xs ys (by omega)
    have := h2 x y
    rw [ed_cons]
    simp only [List.length_cons]
    omega

theorem ed_map {β : Type} {d : β → β → Int} (f : α → β) : ∀ (n : Nat) (xs ys : List α), (∀ x ∈ xs, ∀ y ∈ ys, d (f x) (f y) = c x y) → xs.length + ys.length ≤ n → ed d (xs.map f) (ys.map f) = ed c xs ys := by
  intro n
  induction n with
  | zero =>
    intro xs ys _ h
    have h1 : xs = [] := List.length_eq_zero_iff.mp (by omega)
    have h2 : ys = [] := List.length_eq_zero_iff.mp (by omega)
    subst h1 h2; simp [ed_nil]
  | succ n ih =>
    intro xs ys hc h
    cases xs with
    | nil => simp [ed_nil]
    | cons x xs =>
      cases ys with
      | nil => simp only [List.map_nil, ed_nil_right, List.length_map]
      | cons y ys =>
        simp only [List.length_cons] at h
        have i1 := ih xs (y :: ys) (fun a ha b hb => hc a (.tail _ ha) b hb) (by simp only [List.length_cons]; omega)
        have i2 := ih (x :: xs) ys (fun a ha b hb => hc a ha b (.tail _ hb)) (by simp only [List.length_cons]; omega)
        have i3 := ih xs ys (fun a ha b hb => hc a (.tail _ ha) b (.tail _ hb)) (by omega)
        simp only [List.map_cons] at i1 i2 ⊢
        rw [ed_cons, ed_cons, i1, i2, i3, hc x (.head _) y (.head _)]

/-! the table -/
noncomputable def et (c : α → α → Int) (xs ys : List α) (i j : Nat) : Int := ed c (xs.take i).reverse (ys.take j).reverse
theorem et_left {xs ys : List α} {j : Nat} (h : j ≤ ys.length) : et c xs ys 0 j = 2 * (j : Int) := by
  simp only [et, List.take_zero, List.reverse_nil, ed_nil, List.length_reverse, List.length_take]; omega
theorem et_right {xs ys : List α} {i : Nat} (h : i ≤ xs.length) : et c xs ys i 0 = 2 * (i : Int) := by
  simp only [et, List.take_zero, List.reverse_nil, ed_nil_right, List.length_reverse, List.length_take]; omega
theorem take_rev {xs : List α} {i : Nat} (h : i < xs.length) : (xs.take (i + 1)).reverse = xs[i] :: (xs.take i).reverse := by
  rw [List.take_add_one, List.getElem?_eq_getElem h]; simp
theorem et_step {xs ys : List α} {i j : Nat} (hi : i < xs.length) (hj : j < ys.length) :
    et c xs ys (i + 1) (j + 1) = min (min (et c xs ys i (j + 1)) (et c xs ys (i + 1) j) + 2) (et c xs ys i j + c xs[i] ys[j]) := by
  unfold et
  rw [take_rev hi, take_rev hj, ed_cons]
theorem et_last (xs ys : List α) : et c xs ys xs.length ys.length = ed c xs.reverse ys.reverse := by simp [et]
theorem et_first (h2 : ∀ x y, c x y ≤ 2) {xs ys : List α} {j : Nat} (hx : 0 < xs.length) (hj : j < ys.length) : et c xs ys 1 (j + 1) ≤ et c xs ys 0 (j + 1) := by
  rw [et_step hx hj, et_left (by omega), et_left (by omega)]
  have := h2 xs[0] ys[j]
  omega
theorem et_low (h0 : ∀ x y, 0 ≤ c x y) (h2 : ∀ x y, c x y ≤ 2) {xs ys : List α} {j : Nat} {m : Int} (hx : 0 < xs.length) (hj : j < ys.length) (h : ∀ i, 1 ≤ i → i ≤ xs.length → m < et c xs ys i (j + 1)) :
    ∀ k, j + 1 ≤ k → k ≤ ys.length → ∀ i, i ≤ xs.length → m < et c xs ys i k := by
  intro k
  induction k with
  | zero => intro h1; omega
  | succ k ih =>
    intro h1 h2k
    by_cases hk : j = k
    · subst hk
      intro i hi
      cases i with
      | zero => exact Int.lt_of_lt_of_le (h 1 (Nat.le_refl _) hx) (et_first h2 hx hj)
      | succ i => exact h (i + 1) (by omega) hi
    · have hk' := ih (by omega) (by omega)
      intro i
      induction i with
      | zero =>
        intro _
        have := hk' 0 (by omega)
        rw [et_left (by omega)] at this ⊢
        omega
      | succ i ihi =>
        intro hi
        have a1 := ihi (by omega)
        have a2 := hk' (i + 1) hi
        have a3 := hk' i (by omega)
        have a4 := h0 (xs[i]'(by omega)) (ys[k]'(by omega))
        rw [et_step (by omega) (by omega)]
        omega
end
end Mine
end
section
open PySem PySem.W PyProof.Rows PySem.Calls
set_option Elab.async false
set_option maxRecDepth 100000
set_option maxHeartbeats 8000000
namespace Mine
theorem off_C1 : True := by
  w_top off
  trivial
theorem fill_C1 : (PySem.Challenge.rw_pe0158_01.prog = PySem.Challenge.rw_pe0158_01.prog) ∧ hd.heap_39 = hd.heap_39 := by
  k_fill
  exact ⟨rfl, rfl⟩
noncomputable def cost (a b : Str) : Int := if a == b then 0 else if Txt.lower a == Txt.lower b then 1 else 2
theorem t_cost (w : World) (a b : Str) (ta tb : Tok) : Tells 2 w 42 [.str a ta, .str b tb] (fun _ => a.length ≤ 1 ∧ b.length ≤ 1) (fun _ r _ => ∃ t, r = .int (cost a b) t) := by
  k_with_none
  k_with "execs cons" => ((try k_fold); refine exe_cons ?_; intro q9)
  k_with "SeqC" => (first | refine seqC_next ?_ | refine seqC_ret ?_)
  k_with "storeName" => (k_here; k_dflt (refine store_T (s₀ := s) (by k_asm) (by k_asm) ?_ (by rfl) (by rfl)); k_whole; intro hK9 tkK9 mK9 FK9 NK9; (try k_sweep))
  k_with "storeName" => (k_here; (with_reducible show wpAny _ _ (storeName _ _ (Value.str _ _)) _ _ _); k_dflt (refine store_S (s₀ := s) (by k_asm) (by k_asm) ?_ (by rfl) (by rfl)); k_whole; intro hK9 tkK9 tK9 mK9 FK9 NK9; (try k_sweep))
  k_with "storeName" => (k_here; (with_reducible show wpAny _ _ (storeName _ _ (Value.int _ _)) _ _ _); k_dflt (refine store_I (s₀ := s) (by k_asm) (by k_asm) ?_ (by rfl) (by rfl)); k_whole; intro hK9 tkK9 tK9 mK9 FK9 NK9; (try k_sweep))
  k_with "eval Name" => (k_here; k_dflt (refine name_L (by k_asm) (by exact rfl) ?_ (by rfl) (by rfl) (by decide)); k_whole)
  refine' tells_L ?k6 ?k7 ?k9 ?kB ?c2 ?c3 ?c4 ?c5 ?_
  (case k6 => k_is); (case k7 => k_is); (case k9 => exact fun _ => BindsTo.of_eq rfl); (case c5 => decide); (case kB => exact locs rfl); (case c2 => exact rfl); (case c3 => exact rfl); (case c4 => exact rfl)
  intro dp un gd envs base s L h₁ tk mean mg mb hdp hun hp B' m9 F' N' X' T' M9 env9 A9 T9
  (try dsimp only)
  k_steps
  all_goals ((try dsimp only); refine done_ (by assumption) ⟨_, congrArg (Value.int · _) ?_⟩; simp [cost, *])
end Mine
end
section
open PySem PySem.W PyProof.Rows PySem.Calls
set_option Elab.async false
set_option maxRecDepth 100000
set_option maxHeartbeats 8000000
namespace Mine
theorem off_Lv : True := by
  w_top off
  trivial
theorem fill_Lv : (PySem.Challenge.rw_pe0158_01.prog = PySem.Challenge.rw_pe0158_01.prog) ∧ hd.heap_39 = hd.heap_39 := by
  k_fill
  exact ⟨rfl, rfl⟩
section
variable {prog : Program} {w : World} {A : Around} {E : Value → Shared → Prop} {s : Shared} {cn : Str} {cs : Scope} {L a : Addr} {ccd : Value} {h₀ : Heap} {m : Str → Option Value} {news : List (Addr × Obj)} {Q : Value → Shared → Prop}
theorem ev_cut {x : Str} {us u z : List Nat} {k0 : Nat} {t t1 : Tok} {p1 p2 p3 p4 p5 p6 : Pos} (F : Fr h₀ L s.heap m) (N : News h₀ L s.heap news) (hmx : m x = some (.str (sL us) t1)) (hmp : m (Str.ofString "post") = some (.int (-(z.length : Int)) t))
    (hu : us = u ++ z) (hlen : us.length ≤ 40) (hk : cs.kind = .function) (hx : (envOf cn cs L a ccd).kindOf x = some .local) (hp : (envOf cn cs L a ccd).kindOf (Str.ofString "post") = some .local) (hd : (x == ("__debug__" : Str)) = false)
    (h : ∀ h' t' k, Fr h₀ L h' m → News h₀ L h' news → Q (.str (sL u) t') { s with heap := h', toks := k }) :
    wpAny (model prog w) A (eval (.Subscript (.Name x p1) (.Slice none (some (.BoolOp .Or [.Name (Str.ofString "post") p2, .Constant .none k0 p3] p4)) none p5) p6) (envOf cn cs L a ccd)) Q E s := by
  refine Subscript_ (ld F hmx ?_ hk hx hd)
  refine wpAny_Slice (evalPart_none_step (evalPart_some_step (BoolOp_or (ld F hmp ?_ hk hp (by decide)))))
  have hsz : (sL us).length ≤ sizeLine := by rw [sL_len, sizeLine_eq]; omega
  have hl : us.length = u.length + z.length := by rw [hu, List.length_append]
  by_cases h0 : z = []
  · subst h0
    rw [List.append_nil] at hu
    subst hu
    refine PyProof.Rows.truthy_int ?_
    have e : ((-((([] : List Nat).length : Nat) : Int)) != 0) = false := rfl
    rw [e]
    simp only [Bool.false_eq_true, if_false]
    refine BoolOp_one ?_
    refine wpAny_Constant_none (evalPart_none_step ?_)
    refine slice_strN_nn (s := ⟨_, _, _, _, _⟩) F N ?_ ?_ ?_ hsz
    · intro h' t' k F' N'
      rw [slice_all]
      exact h h' t' k F' N'
    · with_unfolding_all rfl
    · intro _; with_unfolding_all rfl
  · refine PyProof.Rows.truthy_int ?_
    have hz : 0 < z.length := List.length_pos_iff.mpr h0
    have e : ((-(z.length : Int)) != 0) = true := by simp; exact h0
    rw [e]
    simp only [if_true]
    refine evalPart_none_step ?_
    refine slice_strN_ns (s := ⟨_, _, _, _, _⟩) F N ?_ ?_ ?_ hsz
    · intro h' t' k F' N'
      rw [slice_to (by omega) hz, show us.take (us.length - z.length) = u by rw [hl, hu]; simp]
      exact h h' t' k F' N'
    · with_unfolding_all rfl
    · intro _; with_unfolding_all rfl
theorem item_end {us u z : List Nat} (hu : us = u ++ z) (h : u ≠ []) : Txt.item (sL us) (-(z.length : Int) - 1) = sL [u.getLast h] := by
  have hp := List.length_pos_iff.mpr h
  have hl : us.length = u.length + z.length := by rw [hu, List.length_append]
  rw [item_back (by omega)]
  refine congrArg sL (congrArg (fun y => [y]) ?_)
  subst hu
  rw [List.getElem_append_left (by omega), List.getLast_eq_getElem]
  congr 1
  rw [List.length_append]; omega
end

section
variable {prog : Program} {w : World} {A : Around} {E : Value → Shared → Prop} {s : Shared} {h₀ : Heap} {L r : Addr} {m : Str → Option Value} {news : List (Addr × Obj)} {Q : Value → Shared → Prop}
theorem ints_step : ∀ (vs : List Value) (a c : Int) (n : Nat), vs.length = n → (∀ (j : Nat) (v : Value), vs[j]? = some v → ∃ t, v = .int (a + j * c) t) → IntsAre vs (rangeInts a c n)
  | [], a, c, n, e, _ => by
    subst e
    exact IntsAre.nil
  | v :: r, a, c, n, e, h => by
    subst e
    have hr : rangeInts a c (v :: r).length = a :: rangeInts (a + c) c r.length := by
      unfold rangeInts
      rw [List.length_cons, List.range_succ_eq_map, List.map_cons, List.map_map]
      congr 1
      · simp
      · refine List.map_congr_left fun i _ => ?_
        show a + ((i + 1 : Nat) : Int) * c = a + c + (i : Int) * c
        push_cast
        rw [Int.add_mul, Int.one_mul]; omega
    rw [hr]
    obtain ⟨t, ht⟩ := h 0 v rfl
    have hv : v = .int a t := by rw [ht]; simp
    subst hv
    refine IntsAre.cons _ _ (ints_step r (a + c) c r.length rfl fun j v hj => ?_)
    obtain ⟨t', ht'⟩ := h (j + 1) v hj
    refine ⟨t', ht'.trans ?_⟩
    congr 1
    push_cast
    rw [Int.add_mul, Int.one_mul]; omega
theorem list_range2 {a b : Int} {t₀ u₀ v₀ : Tok} {n : Nat} (hh : A.handled = none) (F : Fr h₀ L s.heap m) (N : News h₀ L s.heap news) (hr : IsRange s.heap r a b 2 t₀ u₀ v₀) (ha : 0 ≤ a ∧ a ≤ 1000) (hb : b ≤ 1000) (hn : a + 2 * (n : Int) = b) 
    (h : ∀ D us c h' tk, Fr h₀ L h' m → News h₀ L h' ((D, listOf (List.toArray us) c) :: news) → (∀ p ∈ news, p.1 < D) → IntsAre us (rangeInts a 2 n) → Q (.ref D) { s with heap := h', toks := tk }) :
    wpAny (model prog w) A (call (.type "list") [.ref r]) Q E s := by
  have hsz : Builtin.Range.rangeSize a b 2 = (n : Int) := by
    unfold Builtin.Range.rangeSize
    rw [if_pos (by decide)]
    split <;> omega
  have hsm : Builtin.Range.small a b 2 = true := by
    unfold Builtin.Range.small
    rw [hsz]
    simp only [Builtin.Range.rangeFitsLong, Bool.and_eq_true, Bool.or_eq_true, decide_eq_true_eq, beq_iff_eq, show (2 : Int) > 0 by decide, if_true]
    (try split) <;> omega
  refine call_list_range hh hr hsm hsz (by omega) fun h' tk acc c hk hD hI => ?_
  have hD' : h'.get? s.heap.objs.size = some (listOf (List.toArray acc.toList) c) := by
    rw [Array.toArray_toList]
    exact hD
  exact h _ acc.toList c h' tk (F.keeps hk) (news_pushed F N hk hD' rfl) (fun p hp => Heap.lt_size (N p hp).1) (ints_step _ _ _ _ (by rw [Array.length_toList]; exact hI.1) fun j v hj => hI.2 j v (by rw [← hj, Array.getElem?_toList]))
theorem list_range_a {t₀ u₀ v₀ : Tok} {n : Nat} (hh : A.handled = none) (F : Fr h₀ L s.heap m) (N : News h₀ L s.heap news) (hr : IsRange s.heap r 2 (2 * ((n : Int) + 1)) 2 t₀ u₀ v₀) (hn : n ≤ 100)
    (h : ∀ D us c h' tk, Fr h₀ L h' m → News h₀ L h' ((D, listOf (List.toArray us) c) :: news) → (∀ p ∈ news, p.1 < D) → IntsAre us (rangeInts 2 2 n) → Q (.ref D) { s with heap := h', toks := tk }) :
    wpAny (model prog w) A (call (.type "list") [.ref r]) Q E s := list_range2 hh F N hr (by omega) (by omega) (by omega) h
theorem list_range_b {t₀ u₀ v₀ : Tok} {n : Nat} (hh : A.handled = none) (F : Fr h₀ L s.heap m) (N : News h₀ L s.heap news) (hr : IsRange s.heap r 0 (2 * (n : Int) + 2) 2 t₀ u₀ v₀) (hn : n ≤ 100)
    (h : ∀ D us c h' tk, Fr h₀ L h' m → News h₀ L h' ((D, listOf (List.toArray us) c) :: news) → (∀ p ∈ news, p.1 < D) → IntsAre us (rangeInts 0 2 (n + 1)) → Q (.ref D) { s with heap := h', toks := tk }) :
    wpAny (model prog w) A (call (.type "list") [.ref r]) Q E s := list_range2 hh F N hr (by omega) (by omega) (by push_cast; omega) h
end
noncomputable def costN (x y : Nat) : Int := cost (sL [x]) (sL [y])
noncomputable def levD (xs ys : List Nat) : Int := ed costN xs.reverse ys.reverse
noncomputable def LevOk (xs ys : List Nat) (mc v : Int) : Prop := v = levD xs ys ∨ (v = mc + 1 ∧ mc < levD xs ys)
theorem cost_self (x : Nat) : costN x x = 0 := by simp [costN, cost]
theorem cost_lo (x y : Nat) : 0 ≤ costN x y := by unfold costN cost; split; decide; split <;> decide
theorem cost_hi (x y : Nat) : costN x y ≤ 2 := by unfold costN cost; split; decide; split <;> decide
theorem beq_symm (a b : Str) : (a == b) = (b == a) := by
  by_cases h : a = b
  · subst h; rfl
  · rw [beq_eq_false_iff_ne.mpr h, beq_eq_false_iff_ne.mpr (Ne.symm h)]
theorem cost_symm (x y : Nat) : costN x y = costN y x := by
  unfold costN cost
  rw [beq_symm (sL [x]), beq_symm (Txt.lower (sL [x]))]
theorem lev_same {xs ys : List Nat} (h : (sL xs == sL ys) = true) : levD xs ys = 0 := by
  rw [sL_beq, decide_eq_true_eq] at h
  subst h
  unfold levD
  have := ed_pre cost_self cost_lo cost_hi xs.reverse [] []
  rw [List.append_nil] at this
  rw [this, ed_nil]; rfl
theorem item_eq {xs ys : List Nat} {p q : Nat} (hp : p < xs.length) (hq : q < ys.length) (h : (sL [xs[p]] == sL [ys[q]]) = true) : xs[p] = ys[q] := by
  rw [sL_beq, decide_eq_true_eq] at h
  simpa using h
theorem take_more {xs ys : List Nat} {p : Nat} (h : xs.take p = ys.take p) (hx : p < xs.length) (hy : p < ys.length) (e : (Txt.item (sL xs) (p : Int) == Txt.item (sL ys) (p : Int)) = true) : xs.take (p + 1) = ys.take (p + 1) := by
  rw [item_at hx, item_at hy] at e
  have := item_eq hx hy e
  rw [List.take_add_one, List.take_add_one, h, List.getElem?_eq_getElem hx, List.getElem?_eq_getElem hy, this]
theorem lev_pre {xs ys : List Nat} {p : Nat} (h : xs.take p = ys.take p) : levD (xs.drop p) (ys.drop p) = levD xs ys := by
  unfold levD
  have := ed_post cost_self cost_lo (xs.take p).reverse (xs.drop p).reverse (ys.drop p).reverse
  rw [← this, ← List.reverse_append, List.take_append_drop, h, ← List.reverse_append, List.take_append_drop]
theorem lev_post (u v z : List Nat) : levD (u ++ z) (v ++ z) = levD u v := by
  unfold levD
  rw [List.reverse_append, List.reverse_append]
  exact ed_pre cost_self cost_lo cost_hi z.reverse u.reverse v.reverse
theorem lev_comm (u v : List Nat) : levD u v = levD v u := ed_comm cost_symm _ _ _ (Nat.le_refl _)
theorem lev_nil (v : List Nat) : levD [] v = 2 * (v.length : Int) := by unfold levD; rw [List.reverse_nil, ed_nil, List.length_reverse]
theorem lev_diff (u v : List Nat) : 2 * ((v.length : Int) - u.length) ≤ levD u v := by
  have := (ed_diff (c := costN) cost_lo _ u.reverse v.reverse (Nat.le_refl _)).1
  rwa [List.length_reverse, List.length_reverse] at this
theorem strip_more {us vs u v z : List Nat} (hu : us = u ++ z) (hv : vs = v ++ z) (h1 : u ≠ []) (h2 : v ≠ []) (e : (Txt.item (sL us) (-(z.length : Int) - 1) == Txt.item (sL vs) (-(z.length : Int) - 1)) = true) :
    ∃ u' v' x, u = u' ++ [x] ∧ v = v' ++ [x] := by
  rw [item_end hu h1, item_end hv h2, sL_beq, decide_eq_true_eq] at e
  have e' : u.getLast h1 = v.getLast h2 := by simpa using e
  exact ⟨u.dropLast, v.dropLast, u.getLast h1, (List.dropLast_concat_getLast h1).symm, by rw [e']; exact (List.dropLast_concat_getLast h2).symm⟩
theorem sL_nil0 {u : List Nat} (h : ((sL u).length : Int) = 0) : u = [] := by rw [sL_len] at h; exact List.length_eq_zero_iff.mp (by omega)
theorem news_swap {h₀ h : Heap} {L : Addr} {p q : Addr × Obj} (N : News h₀ L h [p, q]) : News h₀ L h [q, p] := fun x hx => N x (by simp at hx ⊢; exact hx.symm)
theorem ne_nil_of {u : List Nat} (h : ((sL u).length : Int) ≠ 0) : u ≠ [] := fun e => h (by rw [e]; rfl)
inductive LvA (xs ys : List Nat) (c : Int) (tc : Tok) (m : Str → Option Value) (news : List (Addr × Obj)) : Prop
  | mk (x0 : news = []) (p : Nat) (t t1 t2 : Tok) (x1 : p ≤ xs.length) (x2 : p ≤ ys.length) (x3 : xs.take p = ys.take p) (x4 : m (Str.ofString "pre") = some (.int p t)) (x5 : m (Str.ofString "a") = some (.str (sL xs) t1)) (x6 : m (Str.ofString "b") = some (.str (sL ys) t2)) (x7 : m (Str.ofString "max_cost") = some (.int c tc)) : LvA xs ys c tc m news
inductive LvAJ (xs ys : List Nat) (c : Int) (tc : Tok) (n : Nat) (m : Str → Option Value) (news : List (Addr × Obj)) : Prop
  | mk (x0 : news = []) (p : Nat) (t t1 t2 : Tok) (x1 : n = xs.length - p) (x2 : p ≤ xs.length) (x3 : p ≤ ys.length) (x4 : xs.take p = ys.take p) (x5 : m (Str.ofString "pre") = some (.int p t)) (x6 : m (Str.ofString "a") = some (.str (sL xs) t1)) (x7 : m (Str.ofString "b") = some (.str (sL ys) t2)) (x8 : m (Str.ofString "max_cost") = some (.int c tc)) : LvAJ xs ys c tc n m news
inductive LvB (us vs : List Nat) (c : Int) (tc : Tok) (m : Str → Option Value) (news : List (Addr × Obj)) : Prop
  | mk (x0 : news = []) (u v z : List Nat) (t t1 t2 : Tok) (x1 : us = u ++ z) (x2 : vs = v ++ z) (x3 : m (Str.ofString "post") = some (.int (-(z.length : Int)) t)) (x4 : m (Str.ofString "a") = some (.str (sL us) t1)) (x5 : m (Str.ofString "b") = some (.str (sL vs) t2)) (x6 : m (Str.ofString "max_cost") = some (.int c tc)) : LvB us vs c tc m news
inductive LvBJ (us vs : List Nat) (c : Int) (tc : Tok) (n : Nat) (m : Str → Option Value) (news : List (Addr × Obj)) : Prop
  | mk (x0 : news = []) (u v z : List Nat) (t t1 t2 : Tok) (x1 : n = u.length) (x2 : us = u ++ z) (x3 : vs = v ++ z) (x4 : m (Str.ofString "post") = some (.int (-(z.length : Int)) t)) (x5 : m (Str.ofString "a") = some (.str (sL us) t1)) (x6 : m (Str.ofString "b") = some (.str (sL vs) t2)) (x7 : m (Str.ofString "max_cost") = some (.int c tc)) : LvBJ us vs c tc n m news
inductive LvC (dd : Int) (c : Int) (tc : Tok) (m : Str → Option Value) (news : List (Addr × Obj)) : Prop
  | mk (α β : List Nat) (t1 t2 : Tok) (x1 : news = []) (x2 : α.length ≤ β.length) (x3 : 0 < α.length) (x4 : α.length ≤ 40) (x5 : β.length ≤ 40) (x6 : levD α β = dd) (x7 : m (Str.ofString "a") = some (.str (sL α) t1)) (x8 : m (Str.ofString "b") = some (.str (sL β) t2)) (x9 : m (Str.ofString "max_cost") = some (.int c tc)) : LvC dd c tc m news
theorem wstep2 {h₀ h : Heap} {L : Addr} {s : Shared} {Q : Flow → Shared → Prop} {n : Nat} {tk : Nat} {m : Str → Option Value} {c : Int} {tc t t1 t2 : Tok} {us vs u v z : List Nat}
    (F : Fr h₀ L h m) (N : News h₀ L h []) (hn : n = u.length) (hu : us = u ++ z) (hv : vs = v ++ z) (h1 : ((sL u).length : Int) ≠ 0) (h2 : ((sL v).length : Int) ≠ 0)
    (e : (Txt.item (sL us) (-(z.length : Int) - 1) == Txt.item (sL vs) (-(z.length : Int) - 1)) = true)
    (hm1 : m (Str.ofString "post") = some (.int (-(z.length : Int) - 1) t)) (hm2 : m (Str.ofString "a") = some (.str (sL us) t1)) (hm3 : m (Str.ofString "b") = some (.str (sL vs) t2)) (hm4 : m (Str.ofString "max_cost") = some (.int c tc)) :
    WhileStep2 h₀ L s (LvBJ us vs c tc) Q n .next { s with heap := h, toks := tk } := by
  obtain ⟨u', v', x, rfl, rfl⟩ := strip_more hu hv (ne_nil_of h1) (ne_nil_of h2) e
  refine wstep u'.length F N (by rw [hn, List.length_append]; simp) ⟨rfl, u', v', x :: z, t, t1, t2, rfl, by rw [hu]; simp, by rw [hv]; simp, ?_, hm2, hm3, hm4⟩
  rw [hm1]
  refine congrArg some (congrArg (Value.int · t) ?_)
  rw [List.length_cons]; omega
inductive LvJ (α β : List Nat) (D I : Addr) (o : Obj) (t1 t2 tc : Tok) (c : Int) (j i : Nat) (m : Str → Option Value) (news : List (Addr × Obj)) : Prop
  | mk (vs : List Value) (cc : Nat) (ns : List Int) (x1 : news = [(D, listOf vs.toArray cc), (I, o)]) (x2 : IntsAre vs ns) (x3 : ns.length = α.length) (x4 : ∀ k, k < α.length → ns.getD k 0 = if k < i then et costN α β (k + 1) (j + 1) else et costN α β (k + 1) j) (x5 : ∃ r t, m (Str.ofString "result") = some (.int r t) ∧ ((i = 0 ∧ r = 2 * (j : Int)) ∨ (0 < i ∧ r = et costN α β i (j + 1)))) (x6 : ∃ t, m (Str.ofString "distance") = some (.int (et costN α β i j) t)) (x7 : ∃ t, m (Str.ofString "bchar") = some (.str (Txt.item (sL β) (j : Int)) t)) (x8 : ∃ r t, m (Str.ofString "minimum") = some (.int r t) ∧ ∀ k, 1 ≤ k → k ≤ i → r ≤ et costN α β k (j + 1)) (x9 : m (Str.ofString "row") = some (.ref D)) (x10 : m (Str.ofString "a") = some (.str (sL α) t1)) (x11 : m (Str.ofString "b") = some (.str (sL β) t2)) (x12 : m (Str.ofString "max_cost") = some (.int c tc)) : LvJ α β D I o t1 t2 tc c j i m news
inductive LvO (α β : List Nat) (t1 t2 tc : Tok) (c : Int) (j : Nat) (m : Str → Option Value) (news : List (Addr × Obj)) : Prop
  | mk (D : Addr) (vs : List Value) (cc : Nat) (ns : List Int) (x1 : news = [(D, listOf vs.toArray cc)]) (x2 : IntsAre vs ns) (x3 : ns.length = α.length) (x4 : ∀ k, k < α.length → ns.getD k 0 = et costN α β (k + 1) j) (x5 : ∃ r t, m (Str.ofString "result") = some (.int r t) ∧ (0 < j → r = et costN α β α.length j)) (x6 : m (Str.ofString "row") = some (.ref D)) (x7 : m (Str.ofString "a") = some (.str (sL α) t1)) (x8 : m (Str.ofString "b") = some (.str (sL β) t2)) (x9 : m (Str.ofString "max_cost") = some (.int c tc)) : LvO α β t1 t2 tc c j m news
theorem lev_cell {α β : List Nat} {i j : Nat} {ns : List Int} {r : Int} (hi : i < α.length) (hj : j < β.length) (hd : ns.getD i 0 = et costN α β (i + 1) j) (hr : (i = 0 ∧ r = 2 * (j : Int)) ∨ (0 < i ∧ r = et costN α β i (j + 1))) :
    (if et costN α β i j + cost (Txt.item (sL β) (j : Int)) (Txt.item (sL α) (i : Int)) < (if ns.getD (i : Int).toNat 0 < r then ns.getD (i : Int).toNat 0 else r) + 2 then et costN α β i j + cost (Txt.item (sL β) (j : Int)) (Txt.item (sL α) (i : Int)) else (if ns.getD (i : Int).toNat 0 < r then ns.getD (i : Int).toNat 0 else r) + 2) = et costN α β (i + 1) (j + 1) := by
  rw [Int.toNat_natCast, hd, item_at hi, item_at hj]
  have e : cost (sL [β[j]]) (sL [α[i]]) = costN α[i] β[j] := cost_symm _ _
  have h2 := cost_hi α[i] β[j]
  rw [e, et_step hi hj]
  rcases hr with ⟨rfl, rfl⟩ | ⟨h0, rfl⟩
  · rw [et_left (by omega), et_left (by omega)]
    split <;> split <;> omega
  · split <;> split <;> omega
theorem inner_end {h₀ h : Heap} {L I2 D I : Addr} {o o2 : Obj} {s : Shared} {Q : Flow → Shared → Prop} {tk : Nat} {m : Str → Option Value} {α β : List Nat} {t1 t2 tc td tb tv tr : Tok} {c V dv mn : Int} {tm : Tok} {i j c6 : Nat} {vs6 : List Value} {ns6 : List Int}
    (F : Fr h₀ L h m) (N : News h₀ L h [(I2, o2), (D, listOf (vs6.set (i : Int).toNat (.int V tv)).toArray c6), (I, o)]) (hd2 : D ≠ I2) (hd3 : I ≠ I2) (hi : i < α.length)
    (hI : IntsAre (vs6.set (i : Int).toNat (.int V tv)) (ns6.set (i : Int).toNat V)) (hV : V = et costN α β (i + 1) (j + 1)) (hn6 : ns6.length = α.length)
    (hrow : ∀ k, k < α.length → ns6.getD k 0 = if k < i then et costN α β (k + 1) (j + 1) else et costN α β (k + 1) j) (hdv : dv = et costN α β (i + 1) j) (hmn : ∀ k, 1 ≤ k → k ≤ i + 1 → mn ≤ et costN α β k (j + 1))
    (e1 : m (Str.ofString "result") = some (.int V tr)) (e2 : m (Str.ofString "distance") = some (.int dv td)) (e3 : m (Str.ofString "bchar") = some (.str (Txt.item (sL β) (j : Int)) tb)) (e4 : m (Str.ofString "minimum") = some (.int mn tm))
    (e5 : m (Str.ofString "row") = some (.ref D)) (e6 : m (Str.ofString "a") = some (.str (sL α) t1)) (e7 : m (Str.ofString "b") = some (.str (sL β) t2)) (e8 : m (Str.ofString "max_cost") = some (.int c tc)) :
    Turn h₀ L (I2, o2) (LvJ α β D I o t1 t2 tc c j (i + 1)) s Q .next { s with heap := h, toks := tk } := by
  refine Turn.next F N ?_ ⟨_, _, _, rfl, hI, by rw [List.length_set]; exact hn6, ?_, ⟨_, _, e1, Or.inr ⟨by omega, hV⟩⟩, ⟨_, by rw [e2, hdv]⟩, ⟨_, e3⟩, ⟨_, _, e4, hmn⟩, e5, e6, e7, e8⟩
  · intro p hp
    rcases List.mem_cons.mp hp with rfl | hp
    · exact hd2
    · rw [List.mem_singleton.mp hp]; exact hd3
  · intro k hk
    rw [Int.toNat_natCast, List.getD_eq_getElem?_getD, List.getElem?_set]
    by_cases hik : i = k
    · subst hik
      rw [if_pos rfl, if_pos (by omega), if_pos (by omega)]
      exact hV
    · rw [if_neg hik, ← List.getD_eq_getElem?_getD, hrow k hk]
      by_cases h1 : k < i
      · rw [if_pos h1, if_pos (by omega)]
      · rw [if_neg h1, if_neg (by omega)]
theorem t_lev (w : World) (xs ys : List Nat) (c : Int) (ta tb tc : Tok) : Tells 4 w 49 [.str (sL xs) ta, .str (sL ys) tb, .int c tc] (fun _ => xs.length ≤ 40 ∧ ys.length ≤ 40) (fun _ r _ => ∃ v t, r = .int v t ∧ LevOk xs ys c v) := by
  k_with_none
  k_with "execs cons" => ((try k_fold); refine exe_cons ?_; intro q9)
  k_with "SeqC" => (first | refine seqC_next ?_ | refine seqC_ret ?_)
  k_with "storeName" => (k_here; k_dflt (refine store_T (s₀ := s) (by k_asm) (by k_asm) ?_ (by rfl) (by rfl)); k_whole; intro hK9 tkK9 mK9 FK9 NK9; (try k_sweep))
  k_with "storeName" => (k_here; (with_reducible show wpAny _ _ (storeName _ _ (Value.str _ _)) _ _ _); k_dflt (refine store_S (s₀ := s) (by k_asm) (by k_asm) ?_ (by rfl) (by rfl)); k_whole; intro hK9 tkK9 tK9 mK9 FK9 NK9; (try k_sweep))
  k_with "storeName" => (k_here; (with_reducible show wpAny _ _ (storeName _ _ (Value.int _ _)) _ _ _); k_dflt (refine store_I (s₀ := s) (by k_asm) (by k_asm) ?_ (by rfl) (by rfl)); k_whole; intro hK9 tkK9 tK9 mK9 FK9 NK9; (try k_sweep))
  k_with "eval Name" => (k_here; k_dflt (refine name_L (by k_asm) (by exact rfl) ?_ (by rfl) (by rfl) (by decide)); k_whole)
  k_with "setItem ref int" => ((k_here; (with_reducible show wpAny _ _ (setItem (Value.ref _) (Value.int _ _) (Value.int _ _)) _ _ _); k_dflt (refine ksa_set (by k_asm) (by k_asm) (by exact Upd.tail (by assumption) (Upd.head (by assumption))) (by with_reducible assumption) (by omega) (by assumption) (by omega) ?_; k_whole); intro h' F' N' hi' hl' hs'; (try dsimp only)))
  k_with "call ref" => ((k_here; (with_reducible show wpAny _ _ (call (Value.ref 42) _) _ _ _); k_dflt (refine call_T (t_cost _ _ _ _ _) (by k_asm) (by k_asm) (by k_asm) (by k_asm) (by k_asm) (by exact rfl) (by exact rfl) (by exact rfl) (by (dsimp only [amb]; omega)) (by (dsimp only [amb]; omega)) (by exact ⟨by omega, by omega⟩) ?_; k_whole); intro r' h' tk' F' N' st' po'; refine Exists.elim po' ?_; clear po'; intro t' e'; subst e'; clear st'; (try dsimp only)))
  k_with "call type:list" => ((k_here; (with_reducible show wpAny _ _ (call (Value.type _) [Value.ref _]) _ _ _); (rename IsRange _ _ _ _ _ _ _ _ => rgX); (k_dflt (refine list_range_a (by rfl) (by k_asm) (by k_asm) rgX (by omega) ?_; k_whole)); intro D' vs' c' h' tk' F' N' l1 hI'; (try dsimp only)))
  k_with "exec If" => (((with_reducible show wpAny _ _ (exec (Stmt.If _ [Stmt.Assign [Expr.Tuple _ _ _] _ _] [] _) _) _ _ _); refine stop_ ?_))
  k_with "eval Subscript" => (((with_reducible show wpAny _ _ (eval (Expr.Subscript (Expr.Name _ _) (Expr.Slice none (some (Expr.BoolOp _ _ _)) none _) _) _) _ _ _); (rename Fr _ _ _ _ => F'); (rename News _ _ _ _ => N'); (k_dflt (refine ev_cut F' N' (by rfl) (by rfl) (by assumption) (by assumption) (by rfl) (by rfl) (by rfl) (by decide) ?_)); intro _ _ _ _ _; (try dsimp only)))
  k_with "exec While BoolOp cons nil" => (refine stop_ ?_)
  k_with "exec For Name Call cons nil" => (refine stop_ ?_)
  refine' tells_L ?k6 ?k7 ?k9 ?kB ?c2 ?c3 ?c4 ?c5 ?_
  (case k6 => k_is); (case k7 => k_is); (case k9 => exact fun _ => BindsTo.of_eq rfl); (case c5 => decide); (case kB => exact locs rfl); (case c2 => exact rfl); (case c3 => exact rfl); (case c4 => exact rfl)
  intro dp un gd envs base s L h₁ tk mean mg mb hdp hun hp B' m9 F' N' X' T' M9 env9 A9 T9
  obtain ⟨hpx, hpy⟩ := hp
  have hlx : (sL xs).length ≤ 40 := by rw [sL_len]; exact hpx
  have hly : (sL ys).length ≤ 40 := by rw [sL_len]; exact hpy
  (try dsimp only)
  k_steps
  · (try dsimp only)
    exact done_ (by assumption) ⟨_, _, rfl, Or.inl (lev_same (by assumption)).symm⟩
  unfold Stop
  rename Fr _ _ _ _ => F1
  rename News _ _ _ _ => N1
  refine cut (while_ (L := L) (Q := Mid s.heap L s (LvA xs ys c tc))
    (J := LvAJ xs ys c tc) F1 N1 ⟨rfl, 0, _, _, _, rfl, Nat.zero_le _, Nat.zero_le _, by simp, rfl, rfl, rfl, rfl⟩ ?_) ?_
  · intro n m₁ news₁ h tk F2 N2 hJ
    obtain ⟨rfl, p, t, t1, t2, hn, hpa, hpb, htk, hm1, hm2, hm3, hm4⟩ := hJ
    clear F1 N1
    have F3 := fr_over [(Str.ofString "pre", .int p t), (Str.ofString "a", .str (sL xs) t1), (Str.ofString "b", .str (sL ys) t2), (Str.ofString "max_cost", .int c tc)] F2 (by simp [hm1, hm2, hm3, hm4])
    simp only [over] at F3
    clear F2
    k_steps
    · refine wstep (xs.length - (p + 1)) (by assumption) (by assumption) (by rw [sL_len] at *; omega) ⟨rfl, p + 1, _, _, _, rfl, by rw [sL_len] at *; omega, by rw [sL_len] at *; omega, ?_, rfl, rfl, rfl, rfl⟩
      exact take_more htk (by rw [sL_len] at *; omega) (by rw [sL_len] at *; omega) (by assumption)
    all_goals exact Mid.intro (by assumption) (by assumption) ⟨rfl, p, _, _, _, hpa, hpb, htk, rfl, rfl, rfl, rfl⟩
  · rintro f s' ⟨rfl, h, tk, m, news, rfl, F2, N2, rfl, p, t, t1, t2, hpa, hpb, htk, hm1, hm2, hm3, hm4⟩
    clear F1 N1
    have F3 := fr_over [(Str.ofString "pre", .int p t), (Str.ofString "a", .str (sL xs) t1), (Str.ofString "b", .str (sL ys) t2), (Str.ofString "max_cost", .int c tc)] F2 (by simp [hm1, hm2, hm3, hm4])
    simp only [over] at F3
    clear F2
    (try dsimp only)
    k_steps
    unfold Stop
    rename Fr _ _ _ _ => F0
    rename News _ _ _ _ => N4
    obtain ⟨t5, e5⟩ : ∃ t, mK9 (Str.ofString "a") = some (.str (sL (xs.drop p)) t) := ⟨_, by rw [← slice_from hpa]; rfl⟩
    obtain ⟨t6, e6⟩ : ∃ t, mK9 (Str.ofString "b") = some (.str (sL (ys.drop p)) t) := ⟨_, by rw [← slice_from hpb]; rfl⟩
    have e7 : mK9 (Str.ofString "max_cost") = some (.int c tc) := rfl
    obtain ⟨t8, e8⟩ : ∃ t, mK9 (Str.ofString "post") = some (.int 0 t) := ⟨_, rfl⟩
    have F4 := fr_over [(Str.ofString "post", .int 0 t8), (Str.ofString "a", .str (sL (xs.drop p)) t5), (Str.ofString "b", .str (sL (ys.drop p)) t6), (Str.ofString "max_cost", .int c tc)] F0 (by simp [e5, e6, e7, e8])
    simp only [over] at F4
    clear F0 e5 e6 e7 e8
    have hD := lev_pre htk
    have hux : (xs.drop p).length ≤ 40 := by rw [List.length_drop]; omega
    have huy : (ys.drop p).length ≤ 40 := by rw [List.length_drop]; omega
    generalize xs.drop p = us at F4 hD hux
    generalize ys.drop p = vs at F4 hD huy
    have hlu : (sL us).length = us.length := sL_len us
    have hlv : (sL vs).length = vs.length := sL_len vs
    refine cut (while_ (L := L) (Q := Mid s.heap L s (LvB us vs c tc))
      (J := LvBJ us vs c tc) F4 N4 ⟨rfl, us, vs, [], _, _, _, rfl, by simp, by simp, rfl, rfl, rfl, rfl⟩ ?_) ?_
    · intro n m₁ news₁ h tk F2 N2 hJ
      obtain ⟨rfl, u, v, z, t, t1, t2, hn, hu, hv, hm1, hm2, hm3, hm4⟩ := hJ
      clear F4 N4
      have F3 := fr_over [(Str.ofString "post", .int (-(z.length : Int)) t), (Str.ofString "a", .str (sL us) t1), (Str.ofString "b", .str (sL vs) t2), (Str.ofString "max_cost", .int c tc)] F2 (by simp [hm1, hm2, hm3, hm4])
      simp only [over] at F3
      clear F2
      have hcu : (sL u).length = u.length := sL_len u
      have hcv : (sL v).length = v.length := sL_len v
      have hlu' : us.length = u.length + z.length := by rw [hu, List.length_append]
      have hlv' : vs.length = v.length + z.length := by rw [hv, List.length_append]
      k_steps
      · exact wstep2 (by assumption) (by assumption) hn hu hv (by assumption) (by assumption) (by assumption) rfl rfl rfl rfl
      all_goals ((try dsimp only); exact Mid.intro (by assumption) (by assumption) ⟨rfl, u, v, z, _, _, _, hu, hv, rfl, rfl, rfl, rfl⟩)
    · rintro f s' ⟨rfl, h, tk, m, news, rfl, F2, N2, rfl, u, v, z, t, t1, t2, hu, hv, hm1, hm2, hm3, hm4⟩
      clear F4 N4
      have F3 := fr_over [(Str.ofString "post", .int (-(z.length : Int)) t), (Str.ofString "a", .str (sL us) t1), (Str.ofString "b", .str (sL vs) t2), (Str.ofString "max_cost", .int c tc)] F2 (by simp [hm1, hm2, hm3, hm4])
      simp only [over] at F3
      clear F2
      have hcu : (sL u).length = u.length := sL_len u
      have hcv : (sL v).length = v.length := sL_len v
      have hlu' : us.length = u.length + z.length := by rw [hu, List.length_append]
      have hlv' : vs.length = v.length + z.length := by rw [hv, List.length_append]
      have hD2 : levD u v = levD xs ys := by rw [← hD, hu, hv, lev_post]
      (try dsimp only)
      k_steps
      rotate_left
      · (try dsimp only)
        refine done_ (by assumption) ⟨_, _, rfl, Or.inl ?_⟩
        have e0 := sL_nil0 (u := v) (by assumption)
        rw [← hD2, lev_comm, e0, lev_nil, hcu]; simp [sL, Str.length]
      · (try dsimp only)
        refine done_ (by assumption) ⟨_, _, rfl, Or.inl ?_⟩
        have e0 := sL_nil0 (u := u) (by assumption)
        rw [← hD2, e0, lev_nil, hcv]; simp [sL, Str.length]
      unfold Stop
      rename Fr _ _ _ _ => F4
      rename News _ _ _ _ => N4
      rename (((sL u).length : Int) ≠ 0) => hu0
      rename (((sL v).length : Int) ≠ 0) => hv0
      refine cut (P := Mid s.heap L s (LvC (levD xs ys) c tc)) ?_ ?_
      · refine wpAny_If ?_
        k_steps
        · (try dsimp only)
          exact Mid.intro (by assumption) News.nil ⟨v, u, _, _, rfl, by omega, by omega, by omega, by omega, by rw [lev_comm]; exact hD2, rfl, rfl, rfl⟩
        · (try dsimp only)
          exact Mid.intro (by assumption) News.nil ⟨u, v, _, _, rfl, by omega, by omega, by omega, by omega, hD2, rfl, rfl, rfl⟩
      · rintro f s' ⟨rfl, h, tk, m, news, rfl, F2, N2, α, β, t1, t2, rfl, hab, ha0, ha40, hb40, hD3, hm1, hm2, hm3⟩
        clear F4 N4
        have F3 := fr_over [(Str.ofString "a", .str (sL α) t1), (Str.ofString "b", .str (sL β) t2), (Str.ofString "max_cost", .int c tc)] F2 (by simp [hm1, hm2, hm3])
        simp only [over] at F3
        clear F2
        have hla : (sL α).length = α.length := sL_len α
        have hlb : (sL β).length = β.length := sL_len β
        (try dsimp only)
        k_steps
        · (try dsimp only)
          refine done_ (by assumption) ⟨_, _, rfl, Or.inr ⟨rfl, ?_⟩⟩
          have := lev_diff α β
          rw [← hD3]
          omega
        unfold Stop
        rename Fr _ _ _ _ => F4
        rename News _ _ _ _ => N4
        rename IntsAre _ _ => hI4
        refine for_range (L := L) (n := (sL β).length) (J := LvO α β t1 t2 tc c) rfl rfl (by omega) F4 N4 ?_ ?_ ?_ ?_
        · refine ⟨_, _, _, _, rfl, hI4, by rw [rangeInts_length, hla], ?_, ⟨_, _, rfl, fun h => absurd h (Nat.lt_irrefl _)⟩, rfl, rfl, rfl, rfl⟩
          intro k hk
          rw [hla, et_right (by omega)]
          simp [rangeInts, List.getD_eq_getElem?_getD, hk]
          omega
        · intro P hP
          k_steps
          exact hP _ _ _ _ _ _ (by assumption) (by assumption) (by assumption)
        · intro I j m₁ news₁ h tk t o hj hJ hne F5 N5
          obtain ⟨D4, vs5, c5, ns5, rfl, hI5, hn5, hrow5, ⟨r5, tr5, hm0, hres5⟩, hm1, hm2, hm3, hm4⟩ := hJ
          clear F4 N4 hI4
          have F6 := fr_over [(Str.ofString "result", .int r5 tr5), (Str.ofString "row", .ref D4), (Str.ofString "a", .str (sL α) t1), (Str.ofString "b", .str (sL β) t2), (Str.ofString "max_cost", .int c tc)] F5 (by simp [hm0, hm1, hm2, hm3, hm4])
          simp only [over] at F6
          clear F5
          have hd1 : D4 ≠ I := hne _ (.head _)
          k_steps
          unfold Stop
          rename Fr _ _ _ _ => F7
          rename News _ _ _ _ => N7
          refine cut (for_range (L := L) (n := (sL α).length) (Q := Mid s.heap L s (LvJ α β D4 I o t1 t2 tc c j α.length))
            (J := LvJ α β D4 I o t1 t2 tc c j) rfl rfl (by omega) F7 (news_swap N7) ?_ ?_ ?_ ?_) ?_
          · refine ⟨_, _, _, rfl, hI5, hn5, fun k hk => by rw [if_neg (by omega)]; exact hrow5 k hk, ⟨_, _, rfl, Or.inl ⟨rfl, by omega⟩⟩, ⟨_, congrArg (fun z => some (Value.int z _)) (show (j : Int) * 2 = et costN α β 0 j by rw [et_left (by omega), Int.mul_comm])⟩, ⟨_, rfl⟩, ⟨_, _, rfl, fun k h1 h2 => by omega⟩, rfl, rfl, rfl, rfl⟩
          · intro P hP
            k_steps
            exact hP _ _ _ _ _ _ (by assumption) (by assumption) (news_swap (by assumption))
          · intro I2 i m₁ news₁ h tk t o2 hi hJ hne2 F8 N8
            obtain ⟨vs6, c6, ns6, rfl, hI6, hn6, hrow6, ⟨r6, tr6, hr0, hr6⟩, ⟨td6, hd0⟩, ⟨tb6, hb0⟩, ⟨mn6, tm6, hmn0, hmn6⟩, hm1, hm2, hm3, hm4⟩ := hJ
            clear F7 N7
            have F9 := fr_over [(Str.ofString "result", .int r6 tr6), (Str.ofString "distance", .int (et costN α β i j) td6), (Str.ofString "bchar", .str (Txt.item (sL β) (j : Int)) tb6), (Str.ofString "minimum", .int mn6 tm6), (Str.ofString "row", .ref D4), (Str.ofString "a", .str (sL α) t1), (Str.ofString "b", .str (sL β) t2), (Str.ofString "max_cost", .int c tc)] F8 (by simp [hr0, hd0, hb0, hmn0, hm1, hm2, hm3, hm4])
            simp only [over] at F9
            clear F8
            have hd2 : D4 ≠ I2 := hne2 _ (.head _)
            have hd3 : I ≠ I2 := hne2 (I, o) (.tail _ (.head _))
            have hu1 : (I2, o2).1 ≠ D4 := fun e => hd2 e.symm
            have hu2 : ∀ p ∈ [(I, o)], p.1 ≠ D4 := fun p hp e => hd1 (by rw [List.mem_singleton.mp hp] at e; exact e.symm)
            have hix : (i : Int) < ns6.length := by omega
            k_steps
            all_goals try dsimp only
            all_goals have hdv6 : ns6.getD (i : Int).toNat 0 = et costN α β (i + 1) j := by rw [Int.toNat_natCast, hrow6 i (by omega), if_neg (Nat.lt_irrefl _)]
            all_goals have hcell := lev_cell (α := α) (β := β) (i := i) (j := j) (ns := ns6) (r := r6) (by omega) (by omega) (by rw [hrow6 i (by omega), if_neg (Nat.lt_irrefl _)]) hr6
            · refine inner_end (by assumption) (by assumption) hd2 hd3 (by omega) (by assumption) hcell hn6 hrow6 hdv6 ?_ rfl rfl rfl rfl rfl rfl rfl rfl
              intro k h1 h2
              rename (_ < mn6) => hlt
              rw [hcell] at hlt ⊢
              by_cases hk : k = i + 1
              · rw [hk]; exact Int.le_refl _
              · have := hmn6 k h1 (by omega); omega
            · refine inner_end (by assumption) (by assumption) hd2 hd3 (by omega) (by assumption) hcell hn6 hrow6 hdv6 ?_ rfl rfl rfl rfl rfl rfl rfl rfl
              intro k h1 h2
              rename (¬ _ < mn6) => hlt
              rw [hcell] at hlt
              by_cases hk : k = i + 1
              · rw [hk]; omega
              · exact hmn6 k h1 (by omega)
          · intro m' news' h' tk hJ F8 N8
            rw [hla] at hJ
            exact Mid.intro F8 N8 hJ
          · rintro f s' ⟨rfl, h, tk, m, news, rfl, F8, N8, vs6, c6, ns6, rfl, hI6, hn6, hrow6, ⟨r6, tr6, hr0, hr6⟩, ⟨td6, hd0⟩, ⟨tb6, hb0⟩, ⟨mn6, tm6, hmn0, hmn6⟩, hm1, hm2, hm3, hm4⟩
            clear F7 N7
            have F9 := fr_over [(Str.ofString "result", .int r6 tr6), (Str.ofString "minimum", .int mn6 tm6), (Str.ofString "row", .ref D4), (Str.ofString "a", .str (sL α) t1), (Str.ofString "b", .str (sL β) t2), (Str.ofString "max_cost", .int c tc)] F8 (by simp [hr0, hmn0, hm1, hm2, hm3, hm4])
            simp only [over] at F9
            clear F8
            (try dsimp only)
            k_steps
            all_goals try dsimp only
            · rename (c < mn6) => hlt
              refine Turn.ret ?_
              (repeat (first | k_unfold | refine seqC_ret ?_))
              (try dsimp only)
              refine done_ (by assumption) ⟨_, _, rfl, Or.inr ⟨rfl, ?_⟩⟩
              have := et_low (c := costN) cost_lo cost_hi (xs := α) (ys := β) (j := j) (m := c) ha0 (by omega) (fun k h1 h2 => Int.lt_of_lt_of_le hlt (hmn6 k h1 h2)) β.length (by omega) (Nat.le_refl _) α.length (Nat.le_refl _)
              rw [et_last] at this
              rw [← hD3]
              exact this
            · refine Turn.drop (news' := [(D4, listOf vs6.toArray c6)]) (by assumption) N8 (.tail _ (.head _)) (fun p hp => by rw [List.mem_singleton.mp hp]; exact .head _) (fun p hp => by rw [List.mem_singleton.mp hp]; exact hd1) ⟨D4, vs6, c6, ns6, rfl, hI6, hn6, fun k hk => by rw [hrow6 k hk, if_pos hk], ⟨_, _, rfl, fun _ => ?_⟩, rfl, rfl, rfl, rfl⟩
              rcases hr6 with ⟨h0, _⟩ | ⟨_, h1⟩
              · omega
              · exact h1
        · intro m' news' h' tk hJ F5 N5
          obtain ⟨D4, vs5, c5, ns5, rfl, hI5, hn5, hrow5, ⟨r5, tr5, hm0, hres5⟩, hm1, hm2, hm3, hm4⟩ := hJ
          clear F4 N4 hI4
          have F6 := fr_over [(Str.ofString "result", .int r5 tr5)] F5 (by simp [hm0])
          simp only [over] at F6
          clear F5
          (try dsimp only)
          k_steps
          (try dsimp only)
          refine done_ (by assumption) ⟨_, _, rfl, Or.inl ?_⟩
          rw [hres5 (by omega), hlb, et_last, ← hD3]
          rfl
end Mine
end
section
open PySem PySem.W PyProof.Rows PySem.Calls
set_option Elab.async false
set_option maxRecDepth 100000
namespace Mine
section
variable {prog : Program} {w : World} {A : Around} {E : Value → Shared → Prop} {s : Shared} {value slice : Expr} {l : Addr} {vs : List Value} {u : Tok} {Q : Value → Shared → Prop}
theorem len_n {n : Nat} (hl : s.heap.IsList l vs.toArray) (hn : vs.length = n) (h9 : n ≤ 1000) (h : Q (.int (n : Int) (s.toks + 1)) { s with toks := s.toks + 1 + 1 }) : wpAny (model prog w) A (call (.builtin "len") [.ref l]) Q E s := by
  have e : vs.toArray.size = n := by rw [List.size_toArray]; exact hn
  refine call_len_list hl (by rw [e]; omega) ?_
  rw [e]; exact h
theorem item_n {i : Int} {k : Nat} {v : Value} (hl : s.heap.IsList l vs.toArray) (hi : i = (k : Int)) (h9 : k ≤ 1000) (hx : vs[k]? = some v) (h : Q v s)
    (hs : ∀ i, subscripted slice false (.ref l) (.int i u) = operate [.ref l, .int i u] (getItem (.ref l) (.int i u))) :
    wpAny (model prog w) A (subscriptTail value slice (.ref l) (.int i u)) Q E s := by
  subst hi
  exact tail_any hl.typeIs slot_list_getitem.lookup (wpAny_getItem_list hl (by omega) (by omega) (by simpa using hx) h) (hs _)
theorem item_t0 {v₀ v₁ : Value} (hl : IsTup s.heap l #[v₀, v₁]) (h : Q v₀ s)
    (hs : ∀ i, subscripted slice false (.ref l) (.int i u) = operate [.ref l, .int i u] (getItem (.ref l) (.int i u))) :
    wpAny (model prog w) A (subscriptTail value slice (.ref l) (.int 0 u)) Q E s :=
  tail_any hl.typeIs slot_tuple_getitem.lookup (getItem_tuple hl (j := 0) (by decide) (by decide) rfl rfl h) (hs _)
theorem item_t1 {v₀ v₁ : Value} (hl : IsTup s.heap l #[v₀, v₁]) (h : Q v₁ s)
    (hs : ∀ i, subscripted slice false (.ref l) (.int i u) = operate [.ref l, .int i u] (getItem (.ref l) (.int i u))) :
    wpAny (model prog w) A (subscriptTail value slice (.ref l) (.int 1 u)) Q E s :=
  tail_any hl.typeIs slot_tuple_getitem.lookup (getItem_tuple hl (j := 1) (by decide) (by decide) rfl rfl h) (hs _)
theorem min3_N {h₀ : Heap} {L : Addr} {m : Str → Option Value} {news : List (Addr × Obj)} {a b c : Int} {t u x : Tok} (hh : A.handled = none) (F : Fr h₀ L s.heap m) (N : News h₀ L s.heap news)
    (h : ∀ h' tk v, Fr h₀ L h' m → News h₀ L h' news → Q (.int (min (min a b) c) v) { s with heap := h', toks := tk }) :
    wpAny (model prog w) A (call (.builtin "min") [.int a t, .int b u, .int c x]) Q E s := by
  refine min_three_ints hh fun h' tk hk => ?_
  have key := fun v => h h' tk v (F.grownK hk) (N.grown hk)
  by_cases hba : b < a <;> by_cases hc1 : c < b <;> by_cases hc2 : c < a <;> simp only [hba, hc1, hc2, if_true, if_false]
  all_goals first
    | (rw [show min (min a b) c = a by omega] at key; exact key _)
    | (rw [show min (min a b) c = b by omega] at key; exact key _)
    | (rw [show min (min a b) c = c by omega] at key; exact key _)
end
theorem list_at {h₀ h : Heap} {L l : Addr} {m : Str → Option Value} {vs : List Value} (F : Fr h₀ L h m) (hl : h₀.IsList l vs.toArray) : h.IsList l vs.toArray := hl.at fun o e => F.keep l o e
theorem tup_at {h₀ h : Heap} {L l : Addr} {m : Str → Option Value} {vs : Array Value} (F : Fr h₀ L h m) (hl : IsTup h₀ l vs) : IsTup h l vs := hl.keeps F.keep
end Mine
end
section
open PySem PySem.W PyProof.Rows PySem.Calls
set_option Elab.async false
set_option maxRecDepth 100000
set_option maxHeartbeats 8000000
namespace Mine
theorem fill_ElP : (PySem.Challenge.rw_pe0158_01.prog = PySem.Challenge.rw_pe0158_01.prog) ∧ hd.heap_39 = hd.heap_39 := by
  k_fill
  exact ⟨rfl, rfl⟩
/-! finding -/
noncomputable def Occ (g q : List Nat) (hi i : Nat) : Prop := i + q.length ≤ hi ∧ (g.drop i).take q.length = q
theorem occ_at {g q : List Nat} {hi i : Nat} : PySem.StrLaws.At (sL g) (sL q) hi i ↔ Occ g q hi i := by
  unfold PySem.StrLaws.At Occ
  rw [PySem.StrLaws.subAt_eq, sL_len]
  simp [sL]
theorem occ_head_hi (x y : Str) (lo hi limit : Nat) (hl : 1 ≤ limit) :
    (PySem.Builtin.Str.occurrences x y lo hi limit = [] ∧ ∀ i, lo ≤ i → ¬ PySem.StrLaws.At x y hi i) ∨
    ∃ i r, PySem.Builtin.Str.occurrences x y lo hi limit = i :: r ∧ lo ≤ i ∧ PySem.StrLaws.At x y hi i ∧ ∀ k, lo ≤ k → k < i → ¬ PySem.StrLaws.At x y hi k := by
  rw [PySem.StrLaws.occ_eq]
  rcases PySem.StrLaws.occ_first x y hi limit hl (List.range' lo (hi + 1 - lo)) lo (fun i hi => by have := List.mem_range'_1.mp hi; omega) with ⟨h0, hn⟩ | ⟨pre, a, post, e, h0, ha, hn⟩
  · refine .inl ⟨by rw [h0], fun i hlo hi => ?_⟩
    exact hn i (by have := hi.1; rw [List.mem_range'_1]; omega) hi
  · have hs := PySem.StrLaws.range'_split_from e
    refine .inr ⟨a, ((forIn (List.range' lo (hi + 1 - lo)) ((#[] : Array Nat), lo) (PySem.StrLaws.occBody x y hi limit)).run.fst.toList).tail, ?_, hs.1, ha, fun k hk0 hk => hn k (hs.2 k hk0 hk)⟩
    generalize (forIn (List.range' lo (hi + 1 - lo)) ((#[] : Array Nat), lo) (PySem.StrLaws.occBody x y hi limit)).run.fst = arr at h0
    have h1 : arr.toList[0]? = some a := by simpa using h0
    cases hL : arr.toList with
    | nil => rw [hL] at h1; cases h1
    | cons b t => rw [hL] at h1; simp at h1; rw [h1]; rfl
theorem gives_find4 (x y : Str) (i j : Int) (t u v v' : Tok) : Gives (PySem.Builtin.«str.find» ⟨[.str x t, .str y u, .int i v, .int j v'], []⟩) (.int (match PySem.Builtin.Str.occurrences x y (fromIndex x.length i) (min (fromIndex x.length j) x.length) 1 with | k :: _ => (k : Int) | [] => -1)) := by
  show Gives (match PySem.Builtin.Str.occurrences x y (fromIndex x.length i) (min (fromIndex x.length j) x.length) 1 with | k :: _ => retInt k | [] => (do rule "str.find.not-found"; retInt (-1))) _
  cases PySem.Builtin.Str.occurrences x y (fromIndex x.length i) (min (fromIndex x.length j) x.length) 1 with
  | nil => exact .rule (.of_eq rfl)
  | cons k _ => exact .of_eq rfl
section
variable {prog : Program} {w : World} {A : Around} {E : Value → Shared → Prop} {s : Shared} {t u v v' : Tok} {Q : Value → Shared → Prop} {g q : List Nat} {i j : Int}
theorem find4 (h0 : 0 ≤ i) (h1 : 0 ≤ j) (h2 : j ≤ (sL g).length)
    (no : (∀ k, i.toNat ≤ k → ¬ Occ g q j.toNat k) → Q (.int (-1) s.toks) { s with toks := s.toks + 1 })
    (yes : ∀ k : Nat, i.toNat ≤ k → k + (sL q).length ≤ j.toNat → Occ g q j.toNat k → (∀ l, i.toNat ≤ l → l < k → ¬ Occ g q j.toNat l) → Q (.int (k : Int) s.toks) { s with toks := s.toks + 1 }) :
    wpAny (model prog w) A (call (.builtin "str.find") [.str (sL g) t, .str (sL q) u, .int i v, .int j v']) Q E s := by
  refine call_gives F.slot_str_find (typeIs_str _ _ _) F.entry_str_find (F.args_str_find_4 _ _ _ _) (gives_find4 (sL g) (sL q) i j t u v v') ?_
  have e1 : fromIndex (sL g).length i = i.toNat := by unfold fromIndex; rw [if_neg (by omega)]; omega
  have e2 : min (fromIndex (sL g).length j) (sL g).length = j.toNat := by unfold fromIndex; rw [if_neg (by omega)]; omega
  rw [e1, e2]
  rcases occ_head_hi (sL g) (sL q) i.toNat j.toNat 1 (Nat.le_refl _) with ⟨e, hn⟩ | ⟨k, r, e, hk, ha, hn⟩
  · rw [e]
    exact no fun k hk ho => hn k hk (occ_at.mpr ho)
  · rw [e]
    exact yes k hk (by rw [sL_len]; exact (occ_at.mp ha).1) (occ_at.mp ha) fun l h1 h2 ho => hn l h1 h2 (occ_at.mpr ho)
end
/-! what is matched -/
noncomputable def M2 (p r g : List Nat) : Prop := ∃ x, g = p ++ x ++ r
noncomputable def M3 (p q r g : List Nat) : Prop := ∃ x y, g = p ++ x ++ q ++ y ++ r
theorem starts_iff {g p : List Nat} : Txt.startswith (sL g) (sL p) = true ↔ p.length ≤ g.length ∧ g.take p.length = p := by
  unfold Txt.startswith
  rw [Bool.and_eq_true, decide_eq_true_eq, PySem.StrLaws.subAt_eq, sL_len, sL_len]
  simp [sL]
theorem ends_iff {g r : List Nat} : Txt.endswith (sL g) (sL r) = true ↔ r.length ≤ g.length ∧ g.drop (g.length - r.length) = r := by
  unfold Txt.endswith
  rw [Bool.and_eq_true, decide_eq_true_eq, PySem.StrLaws.subAt_eq, sL_len, sL_len]
  have : ∀ h : r.length ≤ g.length, (g.drop (g.length - r.length)).take r.length = g.drop (g.length - r.length) := fun h => List.take_of_length_le (by rw [List.length_drop]; omega)
  constructor
  · rintro ⟨h1, h2⟩
    have h2' : (g.drop (g.length - r.length)).take r.length = r := by simpa [sL] using h2
    refine ⟨by omega, ?_⟩
    rw [← this (by omega)]; exact h2'
  · rintro ⟨h1, h2⟩
    refine ⟨by omega, ?_⟩
    have h2' : (g.drop (g.length - r.length)).take r.length = r := by rw [this h1]; exact h2
    simpa [sL] using h2'
noncomputable def Pre (p g : List Nat) : Prop := p.length ≤ g.length ∧ g.take p.length = p
noncomputable def Suf (r g : List Nat) : Prop := r.length ≤ g.length ∧ g.drop (g.length - r.length) = r
theorem pre_nil (g : List Nat) : Pre [] g := ⟨Nat.zero_le _, by simp⟩
theorem suf_nil (g : List Nat) : Suf [] g := ⟨Nat.zero_le _, by simp⟩
theorem M2_iff {p r g : List Nat} : M2 p r g ↔ Pre p g ∧ Suf r g ∧ p.length + r.length ≤ g.length := by
  constructor
  · rintro ⟨x, rfl⟩
    have hl : (p ++ x ++ r).length = p.length + x.length + r.length := by rw [List.length_append, List.length_append]
    refine ⟨⟨by omega, by rw [List.append_assoc, List.take_left' rfl]⟩, ⟨by omega, ?_⟩, by omega⟩
    rw [show (p ++ x ++ r).length - r.length = (p ++ x).length by rw [hl, List.length_append]; omega]
    exact List.drop_left' rfl
  · rintro ⟨⟨h1, h2⟩, ⟨h3, h4⟩, h5⟩
    refine ⟨(g.take (g.length - r.length)).drop p.length, ?_⟩
    have e1 : (g.take (g.length - r.length)).take p.length = p := by rw [List.take_take, Nat.min_eq_left (by omega)]; exact h2
    have e2 := List.take_append_drop (g.length - r.length) g
    have e3 := List.take_append_drop p.length (g.take (g.length - r.length))
    rw [e1] at e3
    rw [h4] at e2
    rw [e3, e2]
theorem M3_iff {p q r g : List Nat} : M3 p q r g ↔ Pre p g ∧ Suf r g ∧ p.length + r.length ≤ g.length ∧ ∃ i, p.length ≤ i ∧ Occ g q (g.length - r.length) i := by
  constructor
  · rintro ⟨x, y, e⟩
    have h2 : M2 p r g := ⟨x ++ q ++ y, by rw [e]; simp⟩
    obtain ⟨a1, a2, a3⟩ := M2_iff.mp h2
    have hl : g.length = p.length + x.length + q.length + y.length + r.length := by rw [e]; simp only [List.length_append]
    refine ⟨a1, a2, a3, p.length + x.length, by omega, by omega, ?_⟩
    have : g.drop (p.length + x.length) = q ++ (y ++ r) := by
      rw [e, show p ++ x ++ q ++ y ++ r = (p ++ x) ++ (q ++ (y ++ r)) by simp, List.drop_left' (by simp)]
    rw [this, List.take_left' rfl]
  · rintro ⟨h1, h2, h3, i, hi, ho1, ho2⟩
    obtain ⟨x, e⟩ := M2_iff.mpr ⟨h1, h2, h3⟩
    have hlen : g.length = p.length + x.length + r.length := by rw [e]; simp only [List.length_append]
    have hx : (x.drop (i - p.length)).take q.length = q := by
      have h5 : g.drop i = x.drop (i - p.length) ++ r := by
        rw [e, List.append_assoc, List.drop_append, List.drop_eq_nil_of_le (by omega), List.nil_append, List.drop_append_of_le_length (by omega)]
      rw [h5, List.take_append_of_le_length (by rw [List.length_drop]; omega)] at ho2
      exact ho2
    refine ⟨x.take (i - p.length), (x.drop (i - p.length)).drop q.length, ?_⟩
    have e2 := List.take_append_drop (i - p.length) x
    have e3 := List.take_append_drop q.length (x.drop (i - p.length))
    rw [hx] at e3
    rw [e]
    conv => lhs; rw [← e2, ← e3]
    simp
theorem pre_of {p g : List Nat} (h : Txt.startswith (sL g) (sL p) = true) : Pre p g := starts_iff.mp h
theorem suf_of {r g : List Nat} (h : Txt.endswith (sL g) (sL r) = true) : Suf r g := ends_iff.mp h
theorem nil_of0 {p : List Nat} (h : ((sL p).length : Int) = 0) : p = [] := List.length_eq_zero_iff.mp (by rw [sL_len] at h; omega)
section
variable {p q r g : List Nat}
theorem ff_iff {P : Prop} (h : ¬ P) : (false = true ↔ P) := ⟨(fun e => nomatch e), fun hp => absurd hp h⟩
theorem tt_iff {P : Prop} (h : P) : (true = true ↔ P) := ⟨fun _ => h, fun _ => rfl⟩
end
end Mine
end
section
open PySem PySem.W PyProof.Rows PySem.Calls
set_option Elab.async false
set_option maxRecDepth 100000
set_option maxHeartbeats 4000000
namespace Mine
theorem off_El : True := by
  w_top off
  trivial
theorem fill_El : (PySem.Challenge.rw_pe0158_01.prog = PySem.Challenge.rw_pe0158_01.prog) ∧ hd.heap_39 = hd.heap_39 := by
  k_fill
  exact ⟨rfl, rfl⟩
noncomputable abbrev dots : Str := Str.ofString "..."
noncomputable abbrev TxA (q : List Nat) (u : Value) : Prop := ∃ t, u = .str (sL q) t
section
variable {prog : Program} {w : World} {A : Around} {E : Value → Shared → Prop} {s : Shared} {h₀ : Heap} {L l D : Addr} {m : Str → Option Value} {news news' : List (Addr × Obj)} {value slice : Expr} {vs : List Value} {v : Value} {n : Nat} {u : Tok}
theorem item_last {Q : Value → Shared → Prop} (hl : s.heap.IsList l (vs ++ [v]).toArray) (h : Q v s)
    (hs : ∀ i, subscripted slice false (.ref l) (.int i u) = operate [.ref l, .int i u] (getItem (.ref l) (.int i u))) :
    wpAny (model prog w) A (subscriptTail value slice (.ref l) (.int (-1) u)) Q E s :=
  tail_any hl.typeIs slot_list_getitem.lookup (wpAny_getItem_list_neg hl (by decide) (by simp only [List.size_toArray, List.length_append, List.length_cons, List.length_nil]; omega) (by decide) (by
    have e : (-1 + ((vs ++ [v]).toArray.size : Int)).toNat = vs.length := by simp only [List.size_toArray, List.length_append, List.length_cons, List.length_nil]; omega
    rw [e]; simp) h) (hs _)
theorem del_0 {Q : Unit → Shared → Prop} (F : Fr h₀ L s.heap m) (N : News h₀ L s.heap news) (U : Upd D (listOf (v :: vs).toArray n) (listOf vs.toArray (n + 1)) news news') (hz : vs.length ≤ 100)
    (h : ∀ h', Fr h₀ L h' m → News h₀ L h' news' → Q () { s with heap := h' }) : wpAny (model prog w) A (delItem (.ref D) (.int 0 u)) Q E s := by
  refine ki_del (its := (v :: vs).toArray) (k := 0) (q := vs) F N (by decide) ?_ rfl U (by simp only [List.length_cons, sizeLine_eq]; omega) h
  simp [seqIndex?]
theorem delL_last (v : Value) : ∀ vs : List Value, ki_delL (vs ++ [v]) vs.length = some vs
  | [] => rfl
  | x :: r => by
    show (match ki_delL (r ++ [v]) r.length with | some q => some (x :: q) | none => none) = some (x :: r)
    rw [delL_last v r]
theorem del_last {Q : Unit → Shared → Prop} (F : Fr h₀ L s.heap m) (N : News h₀ L s.heap news) (U : Upd D (listOf (vs ++ [v]).toArray n) (listOf vs.toArray (n + 1)) news news') (hz : vs.length ≤ 100)
    (h : ∀ h', Fr h₀ L h' m → News h₀ L h' news' → Q () { s with heap := h' }) : wpAny (model prog w) A (delItem (.ref D) (.int (-1) u)) Q E s := by
  refine ki_del (its := (vs ++ [v]).toArray) (k := vs.length) (q := vs) F N (by decide) ?_ (delL_last v vs) U (by simp only [List.length_append, List.length_cons, List.length_nil, sizeLine_eq]; omega) h
  simp [seqIndex?]
  omega
end
noncomputable def MidR (Q : Flow → Shared → Prop) (h₀ : Heap) (L : Addr) (s : Shared) (P : (Str → Option Value) → List (Addr × Obj) → Prop) (f : Flow) (s' : Shared) : Prop := (∃ v, f = .ret v ∧ Q f s') ∨ Mid h₀ L s P f s'
theorem cut_R {α : Type} {M : Model} {A : Around} {t : Sem α} {P Q : α → Shared → Prop} {s : Shared} (h : ∀ T : α → Shared → Prop, (∀ f s', P f s' → T f s') → wpAny M A t T NoE s) (k : ∀ f s', P f s' → Q f s') : wpAny M A t Q NoE s :=
  wpAny_mono (h P fun _ _ x => x) k fun _ _ x => x
noncomputable def MG (p : List Nat) (ms : List (List Nat)) (r g : List Nat) : Prop := Pre p g ∧ Suf r g ∧ p.length + r.length ≤ g.length ∧ ∀ q ∈ ms, ∃ i, p.length ≤ i ∧ Occ g q (g.length - r.length) i
inductive ElA (D : Addr) (p r : List Nat) (ms : List (List Nat)) (g : List Nat) (m : Str → Option Value) (news : List (Addr × Obj)) : Prop
  | mk (n : Nat) (t1 t3 tg : Tok) (vm : List Value) (x1 : news = [(D, listOf (Value.str (sL p) t1 :: (vm ++ [Value.str (sL r) t3])).toArray n)]) (x2 : ItemsAre TxA vm ms) (x3 : m (Str.ofString "ws") = some (.ref D)) (x4 : m (Str.ofString "got") = some (.str (sL g) tg)) : ElA D p r ms g m news
inductive ElB (D : Addr) (p r : List Nat) (ms : List (List Nat)) (g : List Nat) (m : Str → Option Value) (news : List (Addr × Obj)) : Prop
  | mk (n : Nat) (t1 t2 t3 tg : Tok) (vs : List Value) (cs : List (List Nat)) (x1 : news = [(D, listOf (vs ++ [Value.str (sL r) t3]).toArray n)]) (x2 : ItemsAre TxA vs cs) (x3 : cs = ms ∨ cs = [] :: ms) (x4 : Pre p g) (x5 : m (Str.ofString "ws") = some (.ref D)) (x6 : m (Str.ofString "got") = some (.str (sL g) tg)) (x7 : m (Str.ofString "startpos") = some (.int (p.length : Int) t1)) (x8 : m (Str.ofString "endpos") = some (.int (g.length : Int) t2)) : ElB D p r ms g m news
inductive ElC (D : Addr) (p r : List Nat) (ms : List (List Nat)) (g : List Nat) (m : Str → Option Value) (news : List (Addr × Obj)) : Prop
  | mk (n : Nat) (t1 t2 tg : Tok) (vs : List Value) (cs : List (List Nat)) (x1 : news = [(D, listOf vs.toArray n)]) (x2 : ItemsAre TxA vs cs) (x3 : cs = ms ∨ cs = [] :: ms ∨ cs = ms ++ [[]] ∨ cs = [] :: ms ++ [[]]) (x4 : Suf r g) (x5 : m (Str.ofString "ws") = some (.ref D)) (x6 : m (Str.ofString "got") = some (.str (sL g) tg)) (x7 : m (Str.ofString "startpos") = some (.int (p.length : Int) t1)) (x8 : m (Str.ofString "endpos") = some (.int ((g.length : Int) - (r.length : Int)) t2)) : ElC D p r ms g m news
inductive ElJ (D : Addr) (n : Nat) (vs : List Value) (lo hi : Nat) (cs : List (List Nat)) (g : List Nat) (i : Nat) (m : Str → Option Value) (news : List (Addr × Obj)) : Prop
  | mk (S : Nat) (t1 t2 tg : Tok) (x1 : news = [(D, listOf vs.toArray n)]) (x2 : m (Str.ofString "got") = some (.str (sL g) tg)) (x3 : m (Str.ofString "startpos") = some (.int (S : Int) t1)) (x4 : m (Str.ofString "endpos") = some (.int (hi : Int) t2)) (x5 : S ≤ hi) (x6 : lo ≤ S) (x7 : ∀ c ∈ cs.take i, ∃ k, lo ≤ k ∧ Occ g c hi k) (x8 : (∀ c ∈ cs.take i, c = []) → S = lo) : ElJ D n vs lo hi cs g i m news
theorem items_consT {v : Value} {c : List Nat} {vs : List Value} {cs : List (List Nat)} (h : TxA c v) (k : ItemsAre TxA vs cs) : ItemsAre TxA (v :: vs) (c :: cs) :=
  ⟨by simp [k.1], fun i x e => by
    cases i with
    | zero => cases e; exact ⟨c, rfl, h⟩
    | succ i => exact k.2 i x e⟩
theorem items_appT {v : Value} {c : List Nat} {vs : List Value} {cs : List (List Nat)} (k : ItemsAre TxA vs cs) (h : TxA c v) : ItemsAre TxA (vs ++ [v]) (cs ++ [c]) := by
  refine ⟨by simp [k.1], fun i x e => ?_⟩
  by_cases hi : i < vs.length
  · rw [List.getElem?_append_left hi] at e
    obtain ⟨c, h1, h2⟩ := k.2 i x e
    exact ⟨c, by rw [List.getElem?_append_left (k.1 ▸ hi)]; exact h1, h2⟩
  · have hl := (List.getElem?_eq_some_iff.mp e).1
    rw [List.length_append, List.length_singleton] at hl
    have hi' : i = vs.length := by omega
    subst hi'
    rw [List.getElem?_concat_length] at e
    cases e
    exact ⟨c, by rw [k.1, List.getElem?_concat_length], h⟩
theorem vals_of {l : List (Str × Tok)} {p r : List Nat} {ms : List (List Nat)} (h : l.map (fun x => x.1) = sL p :: (ms.map sL ++ [sL r])) :
    ∃ t1 t3 vm, strValues l = .str (sL p) t1 :: (vm ++ [.str (sL r) t3]) ∧ ItemsAre TxA vm ms := by
  cases l with
  | nil => cases h
  | cons x l =>
    rw [List.map_cons, List.cons.injEq] at h
    obtain ⟨h1, h2⟩ := h
    have key : ∀ (ms : List (List Nat)) (l : List (Str × Tok)), l.map (fun x => x.1) = ms.map sL ++ [sL r] → ∃ t3 vm, strValues l = vm ++ [.str (sL r) t3] ∧ ItemsAre TxA vm ms := by
      intro ms
      induction ms with
      | nil =>
        intro l h
        cases l with
        | nil => cases h
        | cons y l =>
          rw [List.map_cons, List.map_nil, List.nil_append, List.cons.injEq] at h
          have h0 : l = [] := List.map_eq_nil_iff.mp h.2
          subst h0
          exact ⟨y.2, [], by rw [← h.1]; rfl, rfl, fun i v e => by cases e⟩
      | cons c ms ih =>
        intro l h
        cases l with
        | nil => cases h
        | cons y l =>
          rw [List.map_cons, List.map_cons, List.cons_append, List.cons.injEq] at h
          obtain ⟨t3, vm, e, hi⟩ := ih l h.2
          refine ⟨t3, .str (sL c) y.2 :: vm, ?_, items_consT ⟨_, rfl⟩ hi⟩
          show Value.str y.1 y.2 :: strValues l = _
          rw [e, h.1]; rfl
    obtain ⟨t3, vm, e, hi⟩ := key ms l h2
    refine ⟨x.2, t3, vm, ?_, hi⟩
    show Value.str x.1 x.2 :: strValues l = _
    rw [e, h1]
section
variable {p r g : List Nat} {ms cs : List (List Nat)}
theorem g_pre (h : Txt.startswith (sL g) (sL p) = false) : (false = true ↔ MG p ms r g) := ff_iff fun m => by
  rw [starts_iff.mpr m.1] at h; cases h
theorem g_suf (h : Txt.endswith (sL g) (sL r) = false) : (false = true ↔ MG p ms r g) := ff_iff fun m => by
  rw [ends_iff.mpr m.2.1] at h; cases h
theorem g_len (h : (g.length : Int) - (r.length : Int) < (p.length : Int)) : (false = true ↔ MG p ms r g) := ff_iff fun m => by
  have := m.2.2.1; omega
noncomputable def Mids (ms cs : List (List Nat)) : Prop := (∀ q ∈ ms, q ∈ cs) ∧ ∀ i c, cs[i]? = some c → c ≠ [] → c ∈ ms ∧ ∀ d ∈ cs.take i, d = []
theorem mids_of (h1 : ms.length ≤ 1) (h : cs = ms ∨ cs = [] :: ms ∨ cs = ms ++ [[]] ∨ cs = [] :: ms ++ [[]]) : Mids ms cs := by
  have e : ms = [] ∨ ∃ q, ms = [q] := by
    cases ms with
    | nil => exact .inl rfl
    | cons q ms =>
      have : ms = [] := List.length_eq_zero_iff.mp (Nat.le_zero.mp (Nat.le_of_succ_le_succ h1))
      subst this
      exact .inr ⟨q, rfl⟩
  have key : ∀ (a b : List (List Nat)), (∀ x ∈ a, x = []) → (∀ x ∈ b, x = []) → Mids ms (a ++ (ms ++ b)) := by
    intro a b ha hb
    refine ⟨fun q hq => List.mem_append_right _ (List.mem_append_left _ hq), fun i c hc hne => ?_⟩
    by_cases hi : i < a.length
    · rw [List.getElem?_append_left hi] at hc
      exact absurd (ha c (List.mem_of_getElem? hc)) hne
    · rw [List.getElem?_append_right (by omega)] at hc
      rcases e with rfl | ⟨q, rfl⟩
      · rw [List.nil_append] at hc
        exact absurd (hb c (List.mem_of_getElem? hc)) hne
      · by_cases h0 : i - a.length = 0
        · rw [h0] at hc
          cases hc
          refine ⟨.head _, fun d hd => ?_⟩
          rw [List.take_append_of_le_length (by omega)] at hd
          exact ha d (List.mem_of_mem_take hd)
        · rw [List.getElem?_append_right (by show 1 ≤ _; omega)] at hc
          exact absurd (hb c (List.mem_of_getElem? hc)) hne
  rcases h with rfl | rfl | rfl | rfl
  · have := key [] [] (fun _ h => nomatch h) (fun _ h => nomatch h)
    rw [List.append_nil] at this; exact this
  · have := key [[]] [] (fun _ h => List.mem_singleton.mp h) (fun _ h => nomatch h)
    rw [List.append_nil] at this; exact this
  · exact key [] [[]] (fun _ h => nomatch h) (fun _ h => List.mem_singleton.mp h)
  · exact key [[]] [[]] (fun _ h => List.mem_singleton.mp h) (fun _ h => List.mem_singleton.mp h)
theorem occ_nil {S hi : Nat} (h : S ≤ hi) : Occ g [] hi S := ⟨by simpa using h, by simp⟩
theorem g_occ {lo hi S i : Nat} {c : List Nat} {x y : Int} (M : Mids ms cs) (hc : cs[i]? = some c) (hlo : lo = p.length) (hhi : hi = g.length - r.length) (hS : S ≤ hi) (he : (∀ c ∈ cs.take i, c = []) → S = lo)
    (hx : x.toNat = S) (hy : y.toNat = hi) (h : ∀ k, x.toNat ≤ k → ¬ Occ g c y.toNat k) : (false = true ↔ MG p ms r g) := ff_iff fun m => by
  rw [hx, hy] at h
  have hne : c ≠ [] := fun e => h S (Nat.le_refl _) (e ▸ occ_nil hS)
  obtain ⟨hm, hn⟩ := M.2 i c hc hne
  obtain ⟨k, hk, ho⟩ := m.2.2.2 c hm
  have := he hn
  exact h k (by omega) (by rw [hhi]; exact ho)
theorem g_all {lo hi : Nat} (M : Mids ms cs) (hlo : lo = p.length) (hhi : hi = g.length - r.length) (h1 : Pre p g) (h2 : Suf r g) (h3 : p.length + r.length ≤ g.length) (h : ∀ c ∈ cs.take cs.length, ∃ k, lo ≤ k ∧ Occ g c hi k) : (true = true ↔ MG p ms r g) := by
  subst hlo hhi
  rw [List.take_length] at h
  exact tt_iff ⟨h1, h2, h3, fun q hq => h q (M.1 q hq)⟩
theorem el_next {lo hi S i k : Nat} {c : List Nat} (hc : cs[i]? = some c) (hS : S ≤ hi) (hlo : lo ≤ S) (hoc : ∀ c ∈ cs.take i, ∃ k, lo ≤ k ∧ Occ g c hi k) (hem : (∀ c ∈ cs.take i, c = []) → S = lo) (hk : S ≤ k) (ho : Occ g c hi k) (hf : ∀ l, S ≤ l → l < k → ¬ Occ g c hi l) :
    k + c.length ≤ hi ∧ lo ≤ k + c.length ∧ (∀ d ∈ cs.take (i + 1), ∃ k, lo ≤ k ∧ Occ g d hi k) ∧ ((∀ d ∈ cs.take (i + 1), d = []) → k + c.length = lo) := by
  have e : cs.take (i + 1) = cs.take i ++ [c] := by rw [List.take_add_one, hc]; rfl
  rw [e]
  refine ⟨ho.1, by omega, fun d hd => ?_, fun h => ?_⟩
  · rcases List.mem_append.mp hd with hd | hd
    · exact hoc d hd
    · rw [List.mem_singleton.mp hd]; exact ⟨k, by omega, ho⟩
  · have h1 := hem fun d hd => h d (List.mem_append_left _ hd)
    have h2 := h c (List.mem_append_right _ (.head _))
    subst h2
    have : ¬ S < k := fun hlt => hf S (Nat.le_refl _) hlt (occ_nil hS)
    rw [List.length_nil]; omega
theorem mg2 : MG p [] r g ↔ M2 p r g := ⟨fun m => M2_iff.mpr ⟨m.1, m.2.1, m.2.2.1⟩, fun m => let ⟨a, b, c⟩ := M2_iff.mp m; ⟨a, b, c, fun _ h => nomatch h⟩⟩
theorem mg3 {q : List Nat} : MG p [q] r g ↔ M3 p q r g := ⟨fun m => M3_iff.mpr ⟨m.1, m.2.1, m.2.2.1, m.2.2.2 q (.head _)⟩, fun m => let ⟨a, b, c, d⟩ := M3_iff.mp m; ⟨a, b, c, fun x h => List.mem_singleton.mp h ▸ d⟩⟩
end
theorem t_ellG (w : World) (x : Str) (p r g : List Nat) (ms : List (List Nat)) (ta tb : Tok) (hsp : Txt.split x dots = sL p :: (ms.map sL ++ [sL r])) (hin : Txt.contains x dots = true) :
    Tells 2 w 21 [.str x ta, .str (sL g) tb] (fun _ => x.length ≤ 100 ∧ g.length ≤ 100 ∧ p.length ≤ 100 ∧ r.length ≤ 100 ∧ ms.length ≤ 1 ∧ ∀ q ∈ ms, q.length ≤ 100) (fun _ v _ => ∃ b, v = .bool b ∧ (b = true ↔ MG p ms r g)) := by
  k_with_none
  k_with "execs cons" => ((try k_fold); refine exe_cons ?_; intro q9)
  k_with "SeqC" => (first | refine seqC_next ?_ | refine seqC_ret ?_)
  k_with "storeName" => (k_here; k_dflt (refine store_T (s₀ := s) (by k_asm) (by k_asm) ?_ (by rfl) (by rfl)); k_whole; intro hK9 tkK9 mK9 FK9 NK9; (try k_sweep))
  k_with "storeName" => (k_here; (with_reducible show wpAny _ _ (storeName _ _ (Value.str _ _)) _ _ _); k_dflt (refine store_S (s₀ := s) (by k_asm) (by k_asm) ?_ (by rfl) (by rfl)); k_whole; intro hK9 tkK9 tK9 mK9 FK9 NK9; (try k_sweep))
  k_with "storeName" => (k_here; (with_reducible show wpAny _ _ (storeName _ _ (Value.int _ _)) _ _ _); k_dflt (refine store_I (s₀ := s) (by k_asm) (by k_asm) ?_ (by rfl) (by rfl)); k_whole; intro hK9 tkK9 tK9 mK9 FK9 NK9; (try k_sweep))
  k_with "eval Name" => (k_here; k_dflt (refine name_L (by k_asm) (by exact rfl) ?_ (by rfl) (by rfl) (by decide)); k_whole)
  k_with "exec Assert" => (refine stop_ ?_)
  k_with "exec If" => (refine stop_ ?_)
  k_with "exec For Name Name cons nil" => (refine stop_ ?_)
  k_with "call builtin:len" => (k_here; (with_reducible show wpAny _ _ (call (Value.builtin "len") [Value.ref _]) _ _ _); k_dflt (refine' len_n (News.isList (by k_asm) (by k_mem)) (by assumption) (by omega) ?_))
  k_with "subscriptTail Name Constant ref int" => (k_here; (with_reducible show wpAny _ _ (subscriptTail _ _ (Value.ref _) (Value.int _ _)) _ _ _); k_dflt (refine item_n (News.isList (by k_asm) (by k_mem)) (show (0 : Int) = ((0 : Nat) : Int) from rfl) (by decide) (by exact rfl) ?_ (by intro _; with_unfolding_all rfl)))
  k_with "subscriptTail Name UnaryOp ref int" => (k_here; (with_reducible show wpAny _ _ (subscriptTail _ _ (Value.ref _) (Value.int _ _)) _ _ _); k_dflt (refine item_last (News.isList (by k_asm) (by k_mem)) ?_ (by intro _; with_unfolding_all rfl)))
  k_with "delItem ref int" => (k_here; k_dflt (refine del_last (by k_asm) (by k_asm) (by exact Upd.head (fun _ h => nomatch h)) (by omega) ?_; k_whole); intro hK9 FK9 NK9; (try k_sweep))
  k_with "delItem ref int" => (k_here; (with_reducible show wpAny _ _ (delItem _ (Value.int 0 _)) _ _ _); k_dflt (refine del_0 (by k_asm) (by k_asm) (by exact Upd.head (fun _ h => nomatch h)) (by assumption) ?_; k_whole); intro hK9 FK9 NK9; (try k_sweep))
  k_with "call builtin:str.find" => ((with_reducible show wpAny _ _ (call _ [Value.str (sL _) _, Value.str (sL _) _, Value.int _ _, Value.int _ _]) _ _ _); (refine find4 (by omega) (by omega) (by omega) ?_ ?_ <;> intros))
  refine' tells_L ?k6 ?k7 ?k9 ?kB ?c2 ?c3 ?c4 ?c5 ?_
  (case k6 => k_is); (case k7 => k_is); (case k9 => exact fun _ => BindsTo.of_eq rfl); (case c5 => decide); (case kB => exact locs rfl); (case c2 => exact rfl); (case c3 => exact rfl); (case c4 => exact rfl)
  intro dp un gd envs base s L h₁ tk mean mg mb hdp hun hp B' m9 F' N' X' T' M9 env9 A9 T9
  obtain ⟨hl1, hl2, hl3, hl4, hl5, hl6⟩ := hp
  have hlg : (sL g).length = g.length := sL_len g
  have hlp : (sL p).length = p.length := sL_len p
  have hlr : (sL r).length = r.length := sL_len r
  k_steps
  unfold Stop
  refine wpAny_If ?_
  k_steps
  · exfalso
    rename (List.isEmpty _ = true) => he
    unfold Txt.contains at hin
    rw [he] at hin
    cases hin
  unfold Stop
  rename (List.map _ _ = Txt.split _ _) => hlk
  rename List (Str × Tok) => l9
  rename Fr _ _ _ _ => F1
  rename News _ _ _ _ => N1
  rw [hsp] at hlk
  obtain ⟨t1, t3, vm, hve, hvm⟩ := vals_of hlk
  rw [hve] at N1
  refine gen_state (fun m news => ∃ D, ElA D p r ms g m news) F1 N1 ⟨_, _, t1, t3, tb, vm, rfl, hvm, rfl, rfl⟩ ?_
  clear F1 N1 hlk hve hsp hin hvm
  intro h2 tk2 m2 news2 F2 N2 hA
  obtain ⟨D, n, t1, t3, tg, vm, rfl, hvm, e1, e2⟩ := hA
  have F3 := fr_over [(Str.ofString "ws", .ref D), (Str.ofString "got", .str (sL g) tg)] F2 (by simp [e1, e2])
  simp only [over] at F3
  clear F2 e1 e2
  have hvl : (Value.str (sL p) t1 :: (vm ++ [Value.str (sL r) t3])).length = ms.length + 2 := by simp [hvm.1]
  have hvm1 : (vm ++ [Value.str (sL r) t3]).length ≤ 100 := by rw [List.length_append, hvm.1]; simp only [List.length_cons, List.length_nil]; omega
  refine wpAny_Assert_new rfl ?_
  k_steps
  unfold Stop
  rename News _ _ _ _ => N4
  have N5 : News s.heap L _ [_] := fun q hq => N4 q (List.Mem.tail _ hq)
  clear N4
  refine cut_R (P := MidR q9 s.heap L s (ElB D p r ms g)) ?_ ?_
  · intro T hT
    refine wpAny_If ?_
    k_steps
    all_goals first
      | (unfold Stop
         refine wpAny_If ?_
         k_steps
         · exact hT _ _ (.inr <| Mid.intro (by assumption) (by assumption) ⟨_, _, _, t3, _, vm, ms, rfl, hvm, .inl rfl, pre_of (by assumption), rfl, rfl, rfl, rfl⟩)
         · (refine hT _ _ (.inl ⟨_, rfl, ?_⟩); (repeat (first | k_unfold | refine seqC_ret ?_)); exact done_ (by assumption) ⟨_, rfl, g_pre (by assumption)⟩))
      | (obtain rfl := nil_of0 (p := p) (by assumption)
         exact hT _ _ (.inr <| Mid.intro (by assumption) (by assumption) ⟨_, _, _, t3, _, _ :: vm, [] :: ms, rfl, items_consT ⟨_, rfl⟩ hvm, .inr rfl, pre_nil g, rfl, rfl, rfl, rfl⟩))
  clear hvm hvl hvm1
  rintro f s' (⟨v, rfl, hq⟩ | ⟨rfl, h, tk, m, news, rfl, F5, N5, n, t1, t2, t3, tg, vs, cs, rfl, hi, hcs, hpre, e1, e2, e3, e4⟩)
  · exact hq
  have F6 := fr_over [(Str.ofString "ws", .ref D), (Str.ofString "got", .str (sL g) tg), (Str.ofString "startpos", .int (p.length : Int) t1), (Str.ofString "endpos", .int (g.length : Int) t2)] F5 (by simp [e1, e2, e3, e4])
  simp only [over] at F6
  clear F5 e1 e2 e3 e4
  have hvl : vs.length ≤ 3 := by rw [hi.1]; rcases hcs with rfl | rfl <;> (try simp only [List.length_cons]) <;> omega
  k_steps
  unfold Stop
  refine cut_R (P := MidR q9 s.heap L s (ElC D p r ms g)) ?_ ?_
  · intro T hT
    refine wpAny_If ?_
    k_steps
    all_goals first
      | (unfold Stop
         refine wpAny_If ?_
         k_steps
         · exact hT _ _ (.inr <| Mid.intro (by assumption) (by assumption) ⟨_, _, _, _, vs, cs, rfl, hi, hcs.imp id .inl, suf_of (by assumption), rfl, rfl, rfl, rfl⟩)
         · (refine hT _ _ (.inl ⟨_, rfl, ?_⟩); (repeat (first | k_unfold | refine seqC_ret ?_)); exact done_ (by assumption) ⟨_, rfl, g_suf (by assumption)⟩))
      | (obtain rfl := nil_of0 (p := r) (by assumption)
         exact hT _ _ (.inr <| Mid.intro (by assumption) (by assumption) ⟨_, _, _, _, vs ++ [_], cs ++ [[]], rfl, items_appT hi ⟨_, rfl⟩, .inr (.inr (hcs.imp (fun e => by rw [e]) (fun e => by rw [e]))), suf_nil g, rfl, rfl, rfl, congrArg (fun z => some (Value.int z _)) (Int.sub_zero _).symm⟩))
  clear hi hvl hcs
  rintro f s' (⟨v, rfl, hq⟩ | ⟨rfl, h, tk, m, news, rfl, F5, N5, n, t1, t2, tg, vs, cs, rfl, hi, hcs, hsuf, e1, e2, e3, e4⟩)
  · exact hq
  have hE : (g.length : Int) - (r.length : Int) = ((g.length - r.length : Nat) : Int) := by have := hsuf.1; omega
  rw [hE] at e4
  have F6 := fr_over [(Str.ofString "ws", .ref D), (Str.ofString "got", .str (sL g) tg), (Str.ofString "startpos", .int (p.length : Int) t1), (Str.ofString "endpos", .int ((g.length - r.length : Nat) : Int) t2)] F5 (by simp [e1, e2, e3, e4])
  simp only [over] at F6
  clear F5 e1 e2 e3 e4
  k_steps
  unfold Stop
  refine wpAny_If ?_
  k_steps
  · exact done_ (by assumption) ⟨_, rfl, g_len (by omega)⟩
  unfold Stop
  have hM := mids_of hl5 hcs
  have hle : p.length ≤ g.length - r.length := by omega
  refine for_led (L := L) (vs := vs) (nn := n) (J := ElJ D n vs p.length (g.length - r.length) cs g) rfl rfl (fun i m' news' h => by obtain ⟨_, _, _, _, rfl⟩ := h; exact .head _) F6 N5 ⟨_, _, _, _, rfl, rfl, rfl, rfl, hle, Nat.le_refl _, (fun _ h => nomatch h), fun _ => rfl⟩ (fun P hP => ld F6 rfl hP) ?_ ?_
  · intro I i v m₁ news₁ h tk o hv hJ hne F7 N7
    obtain ⟨S, t1, t2, tg, rfl, e1, e2, e3, hS, hlo, hoc, hem⟩ := hJ
    obtain ⟨c, hc, tc, rfl⟩ := hi.2 i v hv
    have F8 := fr_over [(Str.ofString "got", .str (sL g) tg), (Str.ofString "startpos", .int (S : Int) t1), (Str.ofString "endpos", .int ((g.length - r.length : Nat) : Int) t2)] F7 (by simp [e1, e2, e3])
    simp only [over] at F8
    clear F7 e1 e2 e3
    k_steps
    all_goals (unfold Stop; refine wpAny_If ?_; k_steps)
    · (refine Turn.ret ?_; (repeat (first | k_unfold | refine seqC_ret ?_)); exact done_ (by assumption) ⟨_, rfl, g_occ hM hc rfl rfl hS hem rfl rfl (by assumption)⟩)
    · obtain ⟨a1, a2, a3, a4⟩ := el_next hc hS hlo hoc hem (by assumption) (by assumption) (by assumption)
      exact Turn.next (by assumption) (by assumption) hne ⟨_, _, _, _, rfl, rfl, rfl, rfl, a1, a2, a3, a4⟩
  · intro m' news' h' tk hJ F7 N7
    obtain ⟨S, t1, t2, tg, rfl, e1, e2, e3, hS, hlo, hoc, hem⟩ := hJ
    rw [hi.1] at hoc
    k_steps
    exact done_ (by assumption) ⟨_, rfl, g_all hM rfl rfl hpre hsuf (by omega) hoc⟩
theorem t_ell1 (w : World) (p g : List Nat) (ta tb : Tok) (hin : Txt.contains (sL p) dots = false) :
    Tells 2 w 21 [.str (sL p) ta, .str (sL g) tb] (fun _ => g.length ≤ 100 ∧ p.length ≤ 100) (fun _ v _ => ∃ b, v = .bool b ∧ (b = true ↔ p = g)) := by
  k_with_none
  k_with "execs cons" => ((try k_fold); refine exe_cons ?_; intro q9)
  k_with "SeqC" => (first | refine seqC_next ?_ | refine seqC_ret ?_)
  k_with "storeName" => (k_here; k_dflt (refine store_T (s₀ := s) (by k_asm) (by k_asm) ?_ (by rfl) (by rfl)); k_whole; intro hK9 tkK9 mK9 FK9 NK9; (try k_sweep))
  k_with "storeName" => (k_here; (with_reducible show wpAny _ _ (storeName _ _ (Value.str _ _)) _ _ _); k_dflt (refine store_S (s₀ := s) (by k_asm) (by k_asm) ?_ (by rfl) (by rfl)); k_whole; intro hK9 tkK9 tK9 mK9 FK9 NK9; (try k_sweep))
  k_with "storeName" => (k_here; (with_reducible show wpAny _ _ (storeName _ _ (Value.int _ _)) _ _ _); k_dflt (refine store_I (s₀ := s) (by k_asm) (by k_asm) ?_ (by rfl) (by rfl)); k_whole; intro hK9 tkK9 tK9 mK9 FK9 NK9; (try k_sweep))
  k_with "eval Name" => (k_here; k_dflt (refine name_L (by k_asm) (by exact rfl) ?_ (by rfl) (by rfl) (by decide)); k_whole)
  k_with "exec Assert" => (refine stop_ ?_)
  k_with "call builtin:str.find" => (((with_reducible show wpAny _ _ (call _ [Value.str (sL _) _, Value.str (sL _) _, Value.int _ _, Value.int _ _]) _ _ _); first | (refine find4_nil (by omega) (by omega) (by omega) (by omega) ?_; (try dsimp only)) | (refine find4 (by omega) (by omega) (by omega) ?_ ?_ <;> (intros; try dsimp only))))
  refine' tells_L ?k6 ?k7 ?k9 ?kB ?c2 ?c3 ?c4 ?c5 ?_
  (case k6 => k_is); (case k7 => k_is); (case k9 => exact fun _ => BindsTo.of_eq rfl); (case c5 => decide); (case kB => exact locs rfl); (case c2 => exact rfl); (case c3 => exact rfl); (case c4 => exact rfl)
  intro dp un gd envs base s L h₁ tk mean mg mb hdp hun hp B' m9 F' N' X' T' M9 env9 A9 T9
  obtain ⟨hl1, hl2⟩ := hp
  have hlg : (sL g).length = g.length := sL_len g
  have hlp : (sL p).length = p.length := sL_len p
  (try dsimp only)
  k_steps
  · (try dsimp only)
    refine done_ (by assumption) ⟨_, rfl, ?_⟩
    rw [sL_beq, decide_eq_true_eq]
  all_goals
    exfalso
    rename (List.isEmpty _ = false) => he
    unfold Txt.contains at hin
    rw [he] at hin
    cases hin
end Mine
end
section
open PySem PySem.W PyProof.Rows PySem.Calls
set_option Elab.async false
set_option maxRecDepth 100000
set_option maxHeartbeats 2000000
namespace Mine
theorem off_Sh : True := by
  w_top off
  trivial
theorem fill_Sh : (PySem.Challenge.rw_pe0158_01.prog = PySem.Challenge.rw_pe0158_01.prog) ∧ hd.heap_39 = hd.heap_39 := by
  k_fill
  exact ⟨rfl, rfl⟩
theorem t_sh0 (w : World) (f : Int) (t u : Tok) : Tells 2 w 73 [.int f t, .int 0 u] (fun _ => True) (PostSh f 0) := by
  k_with_none
  k_with "execs cons" => ((try k_fold); refine exe_cons ?_; intro q9)
  k_with "SeqC" => (first | refine seqC_next ?_ | refine seqC_ret ?_)
  k_with "storeName" => (k_here; k_dflt (refine store_T (s₀ := s) (by k_asm) (by k_asm) ?_ (by rfl) (by rfl)); k_whole; intro hK9 tkK9 mK9 FK9 NK9; (try k_sweep))
  k_with "storeName" => (k_here; (with_reducible show wpAny _ _ (storeName _ _ (Value.str _ _)) _ _ _); k_dflt (refine store_S (s₀ := s) (by k_asm) (by k_asm) ?_ (by rfl) (by rfl)); k_whole; intro hK9 tkK9 tK9 mK9 FK9 NK9; (try k_sweep))
  k_with "storeName" => (k_here; (with_reducible show wpAny _ _ (storeName _ _ (Value.int _ _)) _ _ _); k_dflt (refine store_I (s₀ := s) (by k_asm) (by k_asm) ?_ (by rfl) (by rfl)); k_whole; intro hK9 tkK9 tK9 mK9 FK9 NK9; (try k_sweep))
  k_with "eval Name" => (k_here; k_dflt (refine name_L (by k_asm) (by exact rfl) ?_ (by rfl) (by rfl) (by decide)); k_whole)
  refine' tells_LC ?k6 ?k7 ?k9 ?kB ?kD ?c2 ?c3 ?c4 ?_
  (case k6 => k_is); (case k7 => k_is); (case k9 => exact fun _ => BindsTo.of_eq rfl); (case kB => exact rfl); (case kD => decide +kernel); (case c2 => exact rfl); (case c3 => exact rfl); (case c4 => exact rfl)
  intro dp un gd envs base s L h₁ tk cells mean mg mb hdp hun hp B' F' N' Y' X' T' M9 env9 A9 T9
  k_cells Y'
  (try simp only [List.cons_append, List.nil_append] at N')
  (try dsimp only)
  k_steps
  · (try dsimp only)
    rename (f = 0) => hf
    refine done_ (by assumption) ?_
    rename News _ _ _ [_, _, _] => N9
    refine ⟨_, new_of N9 (fun p hp => hp), _, ⟨_, _, rfl, List.Mem.head _⟩, ?_⟩
    subst hf
    refine ⟨rfl, fun i v hv => ?_⟩
    cases i with
    | zero => cases hv; exact ⟨[], rfl, [], ⟨_, _, rfl, List.Mem.tail _ (List.Mem.head _)⟩, .nil⟩
    | succ i => cases hv
  · (try dsimp only)
    rename (¬ f = 0) => hf
    refine done_ (by assumption) ?_
    rename News _ _ _ [_, _] => N9
    refine ⟨_, new_of N9 (fun p hp => hp), [], ⟨_, _, rfl, List.Mem.head _⟩, ?_⟩
    show ItemsAre _ _ (if f = 0 then [[]] else [])
    rw [if_neg hf]
    exact ⟨rfl, fun i v hv => by cases hv⟩
theorem t_sh1 (w : World) (f : Int) (t u : Tok) : Tells 2 w 73 [.int f t, .int 1 u] (fun _ => True) (PostSh f 1) := by
  k_with_none
  k_with "execs cons" => ((try k_fold); refine exe_cons ?_; intro q9)
  k_with "SeqC" => (first | refine seqC_next ?_ | refine seqC_ret ?_)
  k_with "storeName" => (k_here; k_dflt (refine store_T (s₀ := s) (by k_asm) (by k_asm) ?_ (by rfl) (by rfl)); k_whole; intro hK9 tkK9 mK9 FK9 NK9; (try k_sweep))
  k_with "storeName" => (k_here; (with_reducible show wpAny _ _ (storeName _ _ (Value.str _ _)) _ _ _); k_dflt (refine store_S (s₀ := s) (by k_asm) (by k_asm) ?_ (by rfl) (by rfl)); k_whole; intro hK9 tkK9 tK9 mK9 FK9 NK9; (try k_sweep))
  k_with "storeName" => (k_here; (with_reducible show wpAny _ _ (storeName _ _ (Value.int _ _)) _ _ _); k_dflt (refine store_I (s₀ := s) (by k_asm) (by k_asm) ?_ (by rfl) (by rfl)); k_whole; intro hK9 tkK9 tK9 mK9 FK9 NK9; (try k_sweep))
  k_with "eval Name" => (k_here; k_dflt (refine name_L (by k_asm) (by exact rfl) ?_ (by rfl) (by rfl) (by decide)); k_whole)
  refine' tells_LC ?k6 ?k7 ?k9 ?kB ?kD ?c2 ?c3 ?c4 ?_
  (case k6 => k_is); (case k7 => k_is); (case k9 => exact fun _ => BindsTo.of_eq rfl); (case kB => exact rfl); (case kD => decide +kernel); (case c2 => exact rfl); (case c3 => exact rfl); (case c4 => exact rfl)
  intro dp un gd envs base s L h₁ tk cells mean mg mb hdp hun hp B' F' N' Y' X' T' M9 env9 A9 T9
  k_cells Y'
  (try simp only [List.cons_append, List.nil_append] at N')
  (try dsimp only)
  k_steps
  · (try dsimp only)
    rename (0 ≤ f) => hf
    refine done_ (by assumption) ?_
    rename News _ _ _ [_, _, _] => N9
    refine ⟨_, new_of N9 (fun p hp => hp), _, ⟨_, _, rfl, List.Mem.head _⟩, ?_⟩
    show ItemsAre _ _ (if 0 ≤ f then [[f]] else [])
    rw [if_pos hf]
    refine ⟨rfl, fun i v hv => ?_⟩
    cases i with
    | zero => cases hv; exact ⟨[f], rfl, _, ⟨_, _, rfl, List.Mem.tail _ (List.Mem.head _)⟩, .cons _ _ .nil⟩
    | succ i => cases hv
  · (try dsimp only)
    rename (¬ 0 ≤ f) => hf
    refine done_ (by assumption) ?_
    rename News _ _ _ [_, _] => N9
    refine ⟨_, new_of N9 (fun p hp => hp), [], ⟨_, _, rfl, List.Mem.head _⟩, ?_⟩
    show ItemsAre _ _ (if 0 ≤ f then [[f]] else [])
    rw [if_neg hf]
    exact ⟨rfl, fun i v hv => by cases hv⟩
theorem t_sh2 (w : World) (f : Int) (t u : Tok) : Tells 2 w 73 [.int f t, .int 2 u] (fun _ => f ≤ 100 ∧ -100 ≤ f) (PostSh f 2) := by
  k_with_none
  k_with "execs cons" => ((try k_fold); refine exe_cons ?_; intro q9)
  k_with "SeqC" => (first | refine seqC_next ?_ | refine seqC_ret ?_)
  k_with "storeName" => (k_here; k_dflt (refine store_T (s₀ := s) (by k_asm) (by k_asm) ?_ (by rfl) (by rfl)); k_whole; intro hK9 tkK9 mK9 FK9 NK9; (try k_sweep))
  k_with "storeName" => (k_here; (with_reducible show wpAny _ _ (storeName _ _ (Value.str _ _)) _ _ _); k_dflt (refine store_S (s₀ := s) (by k_asm) (by k_asm) ?_ (by rfl) (by rfl)); k_whole; intro hK9 tkK9 tK9 mK9 FK9 NK9; (try k_sweep))
  k_with "storeName" => (k_here; (with_reducible show wpAny _ _ (storeName _ _ (Value.int _ _)) _ _ _); k_dflt (refine store_I (s₀ := s) (by k_asm) (by k_asm) ?_ (by rfl) (by rfl)); k_whole; intro hK9 tkK9 tK9 mK9 FK9 NK9; (try k_sweep))
  k_with "eval Name" => (k_here; k_dflt (refine name_L (by k_asm) (by exact rfl) ?_ (by rfl) (by rfl) (by decide)); k_whole)
  k_with "eval ListComp" => ((k_here; k_dflt (refine LCg.ListComp_U (F₀ := by k_asm) (by with_unfolding_all rfl) (by decide) (by rfl) (by decide) (by rfl) ?_)))
  k_with "CompSrc" => (refine stop_ ?_)
  refine' tells_LC ?k6 ?k7 ?k9 ?kB ?kD ?c2 ?c3 ?c4 ?_
  (case k6 => k_is); (case k7 => k_is); (case k9 => exact fun _ => BindsTo.of_eq rfl); (case kB => exact rfl); (case kD => decide +kernel); (case c2 => exact rfl); (case c3 => exact rfl); (case c4 => exact rfl)
  intro dp un gd envs base s L h₁ tk cells mean mg mb hdp hun hp B' F' N' Y' X' T' M9 env9 A9 T9
  obtain ⟨hf1, hf2⟩ := hp
  k_cells Y'
  (try simp only [List.cons_append, List.nil_append] at N')
  (try dsimp only)
  k_steps
  unfold Stop
  have hsz : Builtin.Range.rangeSize 0 (f + 1) 1 = ((f + 1).toNat : Int) := by
    unfold Builtin.Range.rangeSize
    rw [if_pos (by decide)]
    split
    · rw [Int.ediv_one]; omega
    · omega
  have hn : (f + 1).toNat ≤ 101 := by omega
  refine LCg.CompSrc.range (n := (f + 1).toNat) rfl (by assumption) (by assumption) (by assumption) (small_one (by omega) (by omega) (by omega) (by omega)) hsz (Nat.le_trans hn (by decide)) ?_
  intro g
  refine restU (news := [_]) (R := fun i o => ∃ tt tu n, o = W.listOf #[.int (0 + (i : Int)) tt, .int (f - (0 + (i : Int))) tu] n) (fun _ => trivial) ?_ ?_ _ 0 [] [] (Nat.zero_add _) rfl (fun i y e => by simp at e)
  · intro i v hP hi ys ex I oI C oC D m₂ h tk hC hx F N
    obtain ⟨t9, rfl⟩ := hP
    (try dsimp only)
    k_steps
    (try dsimp only)
    rename (_ ∧ _ ∧ _ ∧ AllLt _ _) => l9
    exact eltN_ (by assumption) (by assumption) l9 ⟨_, _, _, rfl⟩
  · intro ys ex hyl hM
    unfold LCg.FinE
    intro D h tk F N off
    (try dsimp only)
    k_steps
    (try dsimp only)
    refine done_ F ⟨_, new_of N (fun p hp => hp), ys, ⟨_, _, rfl, List.Mem.head _⟩, ?_⟩
    refine ⟨by simp [sharesL, hyl], fun i v hv => ?_⟩
    obtain ⟨b, _, rfl, hm, tt, tu, n, rfl⟩ := hM i v hv
    have hi : i < (f + 1).toNat := by rw [← hyl]; exact (List.getElem?_eq_some_iff.mp hv).1
    refine ⟨[(i : Int), f - (i : Int)], by simp [sharesL, hi], _, ⟨b, n, rfl, List.mem_cons_of_mem _ (List.mem_append_right _ hm)⟩, ?_⟩
    rw [Int.zero_add]
    exact .cons _ _ (.cons _ _ .nil)
end Mine
end
section
open PySem PySem.W PyProof.Rows PySem.Calls
set_option Elab.async false
set_option maxRecDepth 100000
set_option maxHeartbeats 2000000
namespace Mine
theorem off_Pc : True := by
  w_top off
  trivial
theorem fill_Pc : (PySem.Challenge.rw_pe0158_01.prog = PySem.Challenge.rw_pe0158_01.prog) ∧ hd.heap_39 = hd.heap_39 := by
  k_fill
  exact ⟨rfl, rfl⟩
theorem items_places {I : Type} {P : I → Value → Prop} {vs : List Value} {cs : List I} (h : ItemsAre P vs cs) : ∀ js : List Nat, ItemsAre P (js.filterMap (vs[·]?)) (js.filterMap (cs[·]?))
  | [] => ⟨rfl, fun i v e => by cases e⟩
  | j :: js => by
    have ih := items_places h js
    cases hv : vs[j]? with
    | some v =>
      obtain ⟨c, hc, hp⟩ := h.2 j v hv
      simp only [List.filterMap_cons, hv, hc]
      refine ⟨by simp [ih.1], fun i v' e => ?_⟩
      cases i with
      | zero => cases e; exact ⟨c, rfl, hp⟩
      | succ i => exact ih.2 i v' e
    | none =>
      have hc : cs[j]? = none := by
        rw [List.getElem?_eq_none_iff] at hv ⊢
        rw [← h.1]; exact hv
      simp only [List.filterMap_cons, hv, hc]
      exact ih
theorem items_pick {I : Type} {P : I → Value → Prop} {vs : List Value} {cs : List I} (h : ItemsAre P vs cs) (lo hi st : Option Int) :
    ∃ ds, ItemsAre P (slicePick vs.toArray lo hi st).toList ds ∧ (∀ d ∈ ds, d ∈ cs) ∧ ds.length ≤ cs.length := by
  have e : (slicePick vs.toArray lo hi st).toList = (sliceRange (sliceBounds lo hi st vs.length).1 (sliceBounds lo hi st vs.length).2.1 (sliceBounds lo hi st vs.length).2.2).filterMap (vs[·]?) := by simp [slicePick]
  have k := items_places h (sliceRange (sliceBounds lo hi st vs.length).1 (sliceBounds lo hi st vs.length).2.1 (sliceBounds lo hi st vs.length).2.2)
  refine ⟨_, by rw [e]; exact k, fun d hd => ?_, ?_⟩
  · obtain ⟨j, _, hj⟩ := List.mem_filterMap.mp hd
    exact List.mem_of_getElem? hj
  · have s := slicePick_size_le vs.toArray lo hi st
    have l := k.1
    rw [← e, Array.length_toList] at l
    rw [← l, ← h.1]
    simpa using s
section
variable {prog : Program} {w : World} {A : Around} {E : Value → Shared → Prop} {s : Shared} {h₀ : Heap} {L l : Addr} {m : Str → Option Value} {news : List (Addr × Obj)} {value slice : PySem.Expr} {vs : List Value} {vl vu : Value} {lo hi : Option Int} {Q : Value → Shared → Prop}
theorem slice_rows {I : Type} {P : I → Value → Prop} {cs : List I} (F : Fr h₀ L s.heap m) (N : News h₀ L s.heap news) (hl : s.heap.IsList l vs.toArray) (hi' : ItemsAre P vs cs) (hc : cs.length ≤ 100) (pl : IsPart vl lo) (pu : IsPart vu hi)
    (h : ∀ D ws ds h', Fr h₀ L h' m → News h₀ L h' ((D, listOf (List.toArray ws) 0) :: news) → (∀ p ∈ news, p.1 < D) → ItemsAre P ws ds → (∀ d ∈ ds, d ∈ cs) → ds.length ≤ cs.length → ws.length = ds.length → Q (.ref D) { s with heap := h' })
    (hs : subscripted slice false (.ref l) (.ref s.heap.objs.size) = operate [.ref s.heap.objs.size, .ref l] (getItem (.ref l) (.ref s.heap.objs.size))) (ht : ∀ r, letTemporaryGo value (.ref l) r = pure ()) :
    wpAny (model prog w) A (subscriptTail value slice (.ref l) (.ref s.heap.objs.size)) Q E { s with heap := s.heap.push { cls := .type "slice", data := .fields #[vl, vu, .none] } } := by
  obtain ⟨ds, k1, k2, k3⟩ := items_pick hi' lo hi none
  refine kmk_slice F N hl pl pu (fun D h' F' N' l1 => h D (slicePick vs.toArray lo hi none).toList ds h' F' ?_ l1 k1 k2 k3 k1.1) hs ht ?_
  · rw [Array.toArray_toList]; exact N'
  · rw [List.size_toArray, hi'.1, sizeLine_eq]; omega
end

theorem ne_nil {prog : Program} {w : World} {A : Around} {E : Value → Shared → Prop} {s : Shared} {l b : Addr} {vs : List Value} {Q : Value → Shared → Prop} (hl : s.heap.IsList l vs.toArray) (hb : s.heap.IsList b #[]) (hu : A.units < cLine)
    (h : Q (.bool (!vs.isEmpty)) s) : wpAny (model prog w) A (compareOp .NotEq (.ref l) (.ref b)) Q E s := by
  cases vs with
  | nil => exact SeqAt.RcNeAt.lists (e := fun _ => true) hl hb rfl hu (fun j h1 => by simp at h1) prog w E Q h
  | cons v vs => exact SeqAt.RcNeAt.lists_lengths hl hb (by simp) hu prog w E Q h
theorem LIn.mk {ex : List (Addr × Obj)} {a : Addr} {vs : Array Value} {n : Nat} (h : (a, listOf vs n) ∈ ex) : LIn ex (.ref a) vs.toList := ⟨a, n, rfl, by rw [Array.toArray_toList]; exact h⟩
theorem LIn.mkL {ex : List (Addr × Obj)} {a : Addr} {vs : List Value} {n : Nat} (h : (a, listOf vs.toArray n) ∈ ex) : LIn ex (.ref a) vs := ⟨a, n, rfl, h⟩
theorem News.sub {h₀ h : Heap} {L : Addr} {news news' : List (Addr × Obj)} (N : News h₀ L h news) (hs : ∀ p ∈ news', p ∈ news) : News h₀ L h news' := fun p hp => N p (hs p hp)
section
variable {prog : Program} {w : World} {A : Around} {E : Value → Shared → Prop} {s : Shared} {h₀ : Heap} {L l b : Addr} {m : Str → Option Value} {news : List (Addr × Obj)} {vs ws : List Value} {Q : Value → Shared → Prop}
theorem add_raw (F : Fr h₀ L s.heap m) (N : News h₀ L s.heap news) (hl : s.heap.IsList l vs.toArray) (hb : s.heap.IsList b ws.toArray) (hsz : vs.length + ws.length ≤ 1000)
    (h : ∀ D h', Fr h₀ L h' m → News h₀ L h' ((D, listOf (vs ++ ws).toArray 0) :: news) → (∀ p ∈ news, p.1 < D) → Q (.ref D) { s with heap := h' }) : wpAny (model prog w) A (binaryOp .Add (.ref l) (.ref b)) Q E s := by
  refine add_arrays F N hl hb (fun h' F' N' => h _ h' F' N' fun p hp => Heap.lt_size (N p hp).1) ?_
  simp only [List.size_toArray, sizeLine_eq]; omega
end
theorem ix0 : (0 : Int) = ((0 : Nat) : Int) := rfl
theorem ix1 : (1 : Int) = ((1 : Nat) : Int) := rfl
theorem ix2 : (2 : Int) = ((2 : Nat) : Int) := rfl
noncomputable def Part (ex : List (Addr × Obj)) (p : List (Int × Int)) (v : Value) : Prop := RowIn ex p v ∧ (∀ d ∈ p, ColOk d) ∧ p.length ≤ 20
theorem part_old {all exS : List (Addr × Obj)} {a : Addr} {ws : List Value} {k : Nat} {ds cs : List (Int × Int)} (hm : (a, listOf ws.toArray k) ∈ all) (hi : ItemsAre (TIn exS) ws ds) (hC : ∀ d ∈ ds, d ∈ cs) (hL : ds.length ≤ cs.length)
    (hok : ∀ c ∈ cs, ColOk c) (hlen : cs.length ≤ 10) : Part (all ++ exS) ds (.ref a) :=
  ⟨⟨ws, (LIn.mkL hm).mono (fun p hp => List.mem_append_left _ hp), ItemsAre.imp hi fun _ _ y => y.mono fun p hp => List.mem_append_right _ hp⟩, fun d hd => hok d (hC d hd), by omega⟩
theorem part_new {all exS : List (Addr × Obj)} {a T : Addr} {ws : List Value} {k n : Nat} {ds' ds cs : List (Int × Int)} {x y : Int} {t u : Tok} (hm : (a, listOf (Value.ref T :: ws).toArray k) ∈ all)
    (hT : (T, ({ cls := .type "tuple", data := .seq #[.int x t, .int y u] n } : Obj)) ∈ all) (hi : ItemsAre (TIn exS) ws ds') (hC' : ∀ d ∈ ds', d ∈ ds) (hL' : ds'.length ≤ ds.length) (hC : ∀ d ∈ ds, d ∈ cs) (hL : ds.length ≤ cs.length)
    (hok : ∀ c ∈ cs, ColOk c) (hlen : cs.length ≤ 10) (hxy : ColOk (x, y)) : Part (all ++ exS) ((x, y) :: ds') (.ref a) := by
  refine ⟨⟨_, (LIn.mkL hm).mono (fun p hp => List.mem_append_left _ hp), by simp [hi.1], fun i v e => ?_⟩, fun d hd => ?_, by simp only [List.length_cons]; omega⟩
  · cases i with
    | zero => cases e; exact ⟨(x, y), rfl, T, _, n, t, u, rfl, List.mem_append_left _ hT, rfl, rfl⟩
    | succ i => obtain ⟨c, h1, h2⟩ := hi.2 i v e; exact ⟨c, h1, h2.mono fun p hp => List.mem_append_right _ hp⟩
  · rcases List.mem_cons.mp hd with rfl | hd
    · exact hxy
    · exact hok d (hC d (hC' d hd))
theorem ok_pale {c : Int × Int} (h : ColOk c) : ColOk (c.1, 1 - c.2) := by
  obtain ⟨a, b, e⟩ := h
  exact ⟨a, b, by rcases e with e | e <;> simp [e]⟩
theorem ok_hue {c : Int × Int} (h : ColOk c) : ColOk ((c.1 + 5).fmod 16, c.2) := by
  obtain ⟨a, b, e⟩ := h
  refine ⟨?_, ?_, e⟩ <;> (show _ ; rw [Int.fmod_eq_emod_of_nonneg _ (by decide)]; omega)
inductive PcM (exS : List (Addr × Obj)) (pick : Int) (m : Str → Option Value) (news : List (Addr × Obj)) : Prop
  | mk (P a b c : Addr) (n : Nat) (ex : List (Addr × Obj)) (p q r : List (Int × Int)) (x1 : news = (P, listOf #[.ref a, .ref b, .ref c] n) :: ex) (x2 : Part (ex ++ exS) p (.ref a)) (x3 : Part (ex ++ exS) q (.ref b)) (x4 : Part (ex ++ exS) r (.ref c)) (x5 : m (Str.ofString "pieces") = some (.ref P)) (x6 : ∃ t, m (Str.ofString "pick") = some (.int pick t)) : PcM exS pick m news
theorem pc_fin {s : Shared} {h : Heap} {L : Addr} {m : Str → Option Value} {all exS : List (Addr × Obj)} {tk : Nat} {P a b c : Addr} {n : Nat} {p q r : List (Int × Int)} {pick : Int} {t : Tok} (F : Fr s.heap L h m) (N : News s.heap L h all) 
    (e1 : m (Str.ofString "pieces") = some (.ref P)) (e2 : m (Str.ofString "pick") = some (.int pick t)) (hP : (P, listOf #[.ref a, .ref b, .ref c] n) ∈ all)
    (ha : Part (all ++ exS) p (.ref a)) (hb : Part (all ++ exS) q (.ref b)) (hc : Part (all ++ exS) r (.ref c)) : Mid s.heap L s (PcM exS pick) .next { s with heap := h, toks := tk } :=
  Mid.intro F (fun x hx => N x ((List.mem_cons.mp hx).elim (fun e => e ▸ hP) id)) ⟨P, a, b, c, n, all, p, q, r, rfl, ha, hb, hc, e1, t, e2⟩
noncomputable def PostPc (exS : List (Addr × Obj)) (h : Heap) (r : Value) (h' : Heap) : Prop :=
  ∃ ex ps, New h h' ex ∧ 1 ≤ ps.length ∧ ps.length ≤ 3 ∧ (∀ p ∈ ps, ∀ c ∈ p, ColOk c) ∧ (ps.map List.length).sum ≤ 60 ∧ ∃ vs, LIn ex r vs ∧ ItemsAre (RowIn (ex ++ exS)) vs ps
theorem row_list {h₀ h : Heap} {L a : Addr} {m : Str → Option Value} {news ex exS : List (Addr × Obj)} {vs : List Value} (x : LIn (ex ++ exS) (.ref a) vs) (F : Fr h₀ L h m) (N : News h₀ L h news) (hS : Has exS h₀) (hs : ∀ p ∈ ex, p ∈ news) : h.IsList a vs.toArray := by
  obtain ⟨_, e, hl⟩ := x.list (h := h) fun p hp => (List.mem_append.mp hp).elim (fun hp => (N p (hs p hp)).1) fun hp => F.keep _ _ (hS p hp)
  cases e
  exact hl
theorem items_app {I : Type} {P : I → Value → Prop} {vs ws : List Value} {cs ds : List I} (h : ItemsAre P vs cs) (k : ItemsAre P ws ds) : ItemsAre P (vs ++ ws) (cs ++ ds) := by
  refine ⟨by rw [List.length_append, List.length_append, h.1, k.1], fun i v e => ?_⟩
  by_cases hi : i < vs.length
  · rw [List.getElem?_append_left hi] at e
    obtain ⟨c, h1, h2⟩ := h.2 i v e
    exact ⟨c, by rw [List.getElem?_append_left (h.1 ▸ hi)]; exact h1, h2⟩
  · rw [List.getElem?_append_right (by omega)] at e
    obtain ⟨c, h1, h2⟩ := k.2 _ v e
    exact ⟨c, by rw [List.getElem?_append_right (by rw [← h.1]; omega), ← h.1]; exact h1, h2⟩
theorem sub_app {all ex exS : List (Addr × Obj)} (h : ∀ p ∈ ex, p ∈ all) : ∀ p ∈ ex ++ exS, p ∈ all ++ exS := fun p hp => List.mem_append.mpr ((List.mem_append.mp hp).imp (h p) id)
theorem items_nil {I : Type} {P : I → Value → Prop} : ItemsAre P [] [] := ⟨rfl, fun i v e => by cases e⟩
theorem items_cons {I : Type} {P : I → Value → Prop} {v : Value} {c : I} {vs : List Value} {cs : List I} (h : P c v) (k : ItemsAre P vs cs) : ItemsAre P (v :: vs) (c :: cs) :=
  ⟨by simp [k.1], fun i x e => by
    cases i with
    | zero => cases e; exact ⟨c, rfl, h⟩
    | succ i => exact k.2 i x e⟩
theorem Part.mono {ex ex' : List (Addr × Obj)} (hs : ∀ p ∈ ex, p ∈ ex') {p : List (Int × Int)} {v : Value} (h : Part ex p v) : Part ex' p v := ⟨h.1.mono hs, h.2⟩
noncomputable def Prt (exS : List (Addr × Obj)) (cs : List (Int × Int)) (ws : List Value) (ds : List (Int × Int)) : Prop := ItemsAre (TIn exS) ws ds ∧ (∀ d ∈ ds, d ∈ cs) ∧ ds.length ≤ cs.length ∧ ws.length = ds.length
inductive PcA (exS : List (Addr × Obj)) (cs : List (Int × Int)) (pick : Int) (m : Str → Option Value) (news : List (Addr × Obj)) : Prop
  | mk (P D1 D2 D3 : Addr) (ws1 ws2 ws3 : List Value) (ds1 ds2 ds3 : List (Int × Int)) (t1 t2 t3 : Tok) (x1 : news = [(P, listOf #[.ref D1, .ref D2, .ref D3] 0), (D3, listOf ws3.toArray 0), (D2, listOf ws2.toArray 0), (D1, listOf ws1.toArray 0)]) (x2 : D3 < P ∧ D2 < P ∧ D1 < P) (x3 : Prt exS cs ws1 ds1) (x4 : Prt exS cs ws2 ds2) (x5 : Prt exS cs ws3 ds3) (x6 : m (Str.ofString "pieces") = some (.ref P)) (x7 : m (Str.ofString "pick") = some (.int pick t1)) (x8 : m (Str.ofString "place") = some (.int ((pick.fdiv 81).fmod 3) t2)) (x9 : m (Str.ofString "fault") = some (.int ((pick.fdiv 243).fmod 3) t3)) : PcA exS cs pick m news
inductive PcB (exS : List (Addr × Obj)) (cs : List (Int × Int)) (pick : Int) (m : Str → Option Value) (news : List (Addr × Obj)) : Prop
  | mk (P D1 D2 D3 X : Addr) (j : Nat) (ws : List Value) (ds p q r : List (Int × Int)) (K : List (Addr × Obj)) (t1 t2 t3 : Tok) (fl : Int) (x1 : news = (P, listOf [Value.ref D1, .ref D2, .ref D3].toArray 0) :: K) (x2 : ∀ x ∈ K, x.1 ≠ P) (x3 : j < 3) (x4 : [Value.ref D1, .ref D2, .ref D3][j]? = some (.ref X)) (x5 : (X, listOf ws.toArray 0) ∈ K) (x6 : Prt exS cs ws ds) (x7 : Part (K ++ exS) p (.ref D1)) (x8 : Part (K ++ exS) q (.ref D2)) (x9 : Part (K ++ exS) r (.ref D3)) (x10 : m (Str.ofString "pieces") = some (.ref P)) (x11 : m (Str.ofString "pick") = some (.int pick t1)) (x12 : m (Str.ofString "place") = some (.int (j : Int) t2)) (x13 : m (Str.ofString "fault") = some (.int fl t3)) : PcB exS cs pick m news
theorem pcB_of {exS : List (Addr × Obj)} {cs : List (Int × Int)} {pick : Int} {m : Str → Option Value} {news : List (Addr × Obj)} (hok : ∀ c ∈ cs, ColOk c) (hlen : cs.length ≤ 10) (h : PcA exS cs pick m news) : PcB exS cs pick m news := by
  obtain ⟨P, D1, D2, D3, ws1, ws2, ws3, ds1, ds2, ds3, t1, t2, t3, rfl, ⟨l3, l2, l1⟩, h1, h2, h3, e1, e2, e3, e4⟩ := h
  have hK : ∀ x ∈ [(D3, listOf ws3.toArray 0), (D2, listOf ws2.toArray 0), (D1, listOf ws1.toArray 0)], x.1 ≠ P := by
    intro x hx
    simp only [List.mem_cons, List.not_mem_nil, or_false] at hx
    rcases hx with rfl | rfl | rfl
    · exact Nat.ne_of_lt l3
    · exact Nat.ne_of_lt l2
    · exact Nat.ne_of_lt l1
  have p1 := part_old (all := [(D3, listOf ws3.toArray 0), (D2, listOf ws2.toArray 0), (D1, listOf ws1.toArray 0)]) (.tail _ (.tail _ (.head _))) h1.1 h1.2.1 h1.2.2.1 hok hlen
  have p2 := part_old (all := [(D3, listOf ws3.toArray 0), (D2, listOf ws2.toArray 0), (D1, listOf ws1.toArray 0)]) (.tail _ (.head _)) h2.1 h2.2.1 h2.2.2.1 hok hlen
  have p3 := part_old (all := [(D3, listOf ws3.toArray 0), (D2, listOf ws2.toArray 0), (D1, listOf ws1.toArray 0)]) (.head _) h3.1 h3.2.1 h3.2.2.1 hok hlen
  have hpl : (pick.fdiv 81).fmod 3 = 0 ∨ (pick.fdiv 81).fmod 3 = 1 ∨ (pick.fdiv 81).fmod 3 = 2 := by
    rw [Int.fmod_eq_emod_of_nonneg _ (by decide)]; omega
  rcases hpl with e | e | e <;> rw [e] at e3
  · exact ⟨P, D1, D2, D3, D1, 0, ws1, ds1, ds1, ds2, ds3, _, t1, t2, t3, _, rfl, hK, by decide, rfl, .tail _ (.tail _ (.head _)), h1, p1, p2, p3, e1, e2, e3, e4⟩
  · exact ⟨P, D1, D2, D3, D2, 1, ws2, ds2, ds1, ds2, ds3, _, t1, t2, t3, _, rfl, hK, by decide, rfl, .tail _ (.head _), h2, p1, p2, p3, e1, e2, e3, e4⟩
  · exact ⟨P, D1, D2, D3, D3, 2, ws3, ds3, ds1, ds2, ds3, _, t1, t2, t3, _, rfl, hK, by decide, rfl, .head _, h3, p1, p2, p3, e1, e2, e3, e4⟩
section
variable {prog : Program} {w : World} {A : Around} {E : Value → Shared → Prop} {s : Shared} {h₀ : Heap} {L D : Addr} {m : Str → Option Value} {news news' : List (Addr × Obj)} {vs : List Value} {n : Nat} {k : Int} {t : Tok} {v : Value}
theorem set_any {Q : Unit → Shared → Prop} (F : Fr h₀ L s.heap m) (N : News h₀ L s.heap news) (U : Upd D (listOf vs.toArray n) (listOf (vs.set k.toNat v).toArray n) news news') (h0 : 0 ≤ k) (h1 : k < vs.length) (hfit : k < 2 ^ 63)
    (h : ∀ h', Fr h₀ L h' m → News h₀ L h' news' → Q () { s with heap := h' }) :
    wpAny (model prog w) A (setItem (.ref D) (.int k t) v) Q E s := by
  obtain ⟨pre, post, rfl, rfl, a, b⟩ := U.split
  have z := N (D, listOf vs.toArray n) (List.mem_append.mpr (.inr (.head _)))
  refine ki_setAt z.1 h0 hfit (by simpa using h1) (h _ (F.change (Heap.SameBut.update ..) z.2.1 z.2.2) (ki_turn _ N a b ?_ ?_))
  · show vs.toArray.setIfInBounds k.toNat v = (vs.set k.toNat v).toArray
    apply Array.toList_inj.mp
    simp
  · simp
end
theorem pc_set {s : Shared} {h : Heap} {L : Addr} {m : Str → Option Value} {all K exS : List (Addr × Obj)} {tk : Nat} {P D1 D2 D3 W : Addr} {n j : Nat} {p q r z : List (Int × Int)} {pick : Int} {t : Tok} (F : Fr s.heap L h m) (N : News s.heap L h all)
    (e1 : m (Str.ofString "pieces") = some (.ref P)) (e2 : m (Str.ofString "pick") = some (.int pick t)) (hP : (P, listOf ([Value.ref D1, .ref D2, .ref D3].set (j : Int).toNat (.ref W)).toArray n) ∈ all) (hj : j < 3) (hK : ∀ x ∈ K, x ∈ all)
    (ha : Part (K ++ exS) p (.ref D1)) (hb : Part (K ++ exS) q (.ref D2)) (hc : Part (K ++ exS) r (.ref D3)) (hz : Part (all ++ exS) z (.ref W)) : Mid s.heap L s (PcM exS pick) .next { s with heap := h, toks := tk } := by
  have ha' := ha.mono (sub_app hK)
  have hb' := hb.mono (sub_app hK)
  have hc' := hc.mono (sub_app hK)
  match j, hj, hP with
  | 0, _, hP => exact pc_fin F N e1 e2 hP hz hb' hc'
  | 1, _, hP => exact pc_fin F N e1 e2 hP ha' hz hc'
  | 2, _, hP => exact pc_fin F N e1 e2 hP ha' hb' hz
theorem pc_same {s : Shared} {h : Heap} {L : Addr} {m : Str → Option Value} {all K exS : List (Addr × Obj)} {tk : Nat} {P D1 D2 D3 : Addr} {n : Nat} {p q r : List (Int × Int)} {pick : Int} {t : Tok} (F : Fr s.heap L h m) (N : News s.heap L h all)
    (e1 : m (Str.ofString "pieces") = some (.ref P)) (e2 : m (Str.ofString "pick") = some (.int pick t)) (hP : (P, listOf [Value.ref D1, .ref D2, .ref D3].toArray n) ∈ all) (hK : ∀ x ∈ K, x ∈ all)
    (ha : Part (K ++ exS) p (.ref D1)) (hb : Part (K ++ exS) q (.ref D2)) (hc : Part (K ++ exS) r (.ref D3)) : Mid s.heap L s (PcM exS pick) .next { s with heap := h, toks := tk } :=
  pc_fin F N e1 e2 hP (ha.mono (sub_app hK)) (hb.mono (sub_app hK)) (hc.mono (sub_app hK))
theorem t_pieces (w : World) (l : Addr) (vs : List Value) (cs : List (Int × Int)) (exS : List (Addr × Obj)) (pick : Int) (t : Tok) :
    Tells 2 w 68 [.ref l, .int pick t] (fun h => Has exS h ∧ LIn exS (.ref l) vs ∧ ItemsAre (TIn exS) vs cs ∧ (∀ c ∈ cs, ColOk c) ∧ cs.length ≤ 10 ∧ 0 ≤ pick ∧ pick ≤ 1000000) (PostPc exS) := by
  k_with_none
  k_with "execs cons" => ((try k_fold); refine exe_cons ?_; intro q9)
  k_with "SeqC" => (first | refine seqC_next ?_ | refine seqC_ret ?_)
  k_with "storeName" => (k_here; k_dflt (refine store_T (s₀ := s) (by k_asm) (by k_asm) ?_ (by rfl) (by rfl)); k_whole; intro hK9 tkK9 mK9 FK9 NK9; (try k_sweep))
  k_with "storeName" => (k_here; (with_reducible show wpAny _ _ (storeName _ _ (Value.str _ _)) _ _ _); k_dflt (refine store_S (s₀ := s) (by k_asm) (by k_asm) ?_ (by rfl) (by rfl)); k_whole; intro hK9 tkK9 tK9 mK9 FK9 NK9; (try k_sweep))
  k_with "storeName" => (k_here; (with_reducible show wpAny _ _ (storeName _ _ (Value.int _ _)) _ _ _); k_dflt (refine store_I (s₀ := s) (by k_asm) (by k_asm) ?_ (by rfl) (by rfl)); k_whole; intro hK9 tkK9 tK9 mK9 FK9 NK9; (try k_sweep))
  k_with "eval Name" => (k_here; k_dflt (refine name_L (by k_asm) (by exact rfl) ?_ (by rfl) (by rfl) (by decide)); k_whole)
  k_with "subscriptTail Name Slice ref ref" => ((k_here; (with_reducible show wpAny _ _ (subscriptTail _ (PySem.Expr.Slice _ _ none _) (Value.ref _) (Value.ref _)) _ _ _); k_dflt (refine slice_rows (by k_asm) (by k_asm) (by first | kmk_list | walk_at "XL" | exact list_at (by k_asm) (by assumption)) (by assumption) (by omega) (by kmk_part) (by kmk_part) ?_ (by with_unfolding_all rfl) (by kmk_pure)); intro DK9 wsK9 dsK9 hK9 FK9 NK9 l1K9 hIK9 hCK9 hLK9 hWK9; (try k_lt l1K9); (try dsimp only)))
  k_with "compareOp NotEq ref ref" => ((k_here; (with_reducible show wpAny _ _ (compareOp _ (Value.ref _) (Value.ref _)) _ _ _); k_dflt (refine ne_nil (by first | walk_at "XL" | kmk_list) (by kmk_list) (by (have hcL' := cLine_is; simp only [A9, units_in1, units_deeper, Around.mark_units, units_caller, amb]; omega)) ?_); (try dsimp only [List.isEmpty])))
  k_with "binaryOp Add ref ref" => ((k_here; k_dflt (refine add_raw (by k_asm) (by k_asm) (by first | kmk_list | exact list_at (by k_asm) (by assumption)) (by first | kmk_list | exact list_at (by k_asm) (by assumption)) (by walk_at "ADDSZ") ?_); intro DK9 hK9 FK9 NK9 l1K9; (try k_lt l1K9); (try dsimp only)))
  k_with "ADDSZ" => ((simp only [List.length_cons, List.length_nil]; omega))
  k_with "XL" => (exact News.isList (by k_asm) (by (repeat (first | exact hXm | refine List.Mem.tail _ ?_))))
  k_with "KSUB" => (intro pK9 hpK9; (repeat (first | exact hpK9 | refine List.Mem.tail _ ?_)))
  k_with "setItem ref int" => (k_here; k_dflt (refine set_any (by k_asm) (by k_asm) (by exact Upd.tail (neN (by (try dsimp only); omega)) (Upd.tail (neN (by (try dsimp only); omega)) (Upd.tail (neN (by (try dsimp only); omega)) (Upd.tail (neN (by (try dsimp only); omega)) (Upd.tail (neN (by (try dsimp only); omega)) (Upd.head hKP)))))) (by omega) (by (simp only [List.length_cons, List.length_nil]; omega)) (by omega) ?_; k_whole); intro hK9 FK9 NK9; (try k_sweep))
  k_with "SUBI" => ((k_here; (with_reducible show wpAny _ _ (subscriptTail _ _ (Value.ref _) (Value.int _ _)) _ _ _); k_dflt (refine item_n (by first | kmk_list | walk_at "XL" | exact list_at (by k_asm) (by assumption)) (by first | exact ix0 | exact ix1 | exact ix2 | exact rfl) (by first | decide | omega) (by first | exact hX | exact rfl) ?_ (by intro _; with_unfolding_all rfl)); (try dsimp only)))
  k_with "subscriptTail Name Name ref int" => (walk_at "SUBI")
  k_with "subscriptTail Name Constant ref int" => (walk_at "SUBI")
  k_with "subscriptTail Subscript Constant ref int" => (walk_at "SUBI")
  k_with "exec If" => (refine stop_ ?_)
  k_with "ROWL" => ((refine row_list (by assumption) (by k_asm) (by k_asm) (by assumption) (by (intro pK9 hpK9; simp only [List.mem_cons, hpK9, or_true]))))
  k_with "binaryOp Add ref ref" => ((k_here; k_dflt (refine add_raw (by k_asm) (by k_asm) (by first | walk_at "ROWL" | kmk_list | exact list_at (by k_asm) (by assumption)) (by first | walk_at "ROWL" | kmk_list | exact list_at (by k_asm) (by assumption)) (by walk_at "ADDSZ") ?_); intro DK9 hK9 FK9 NK9 l1K9; (try k_lt l1K9); (try dsimp only)))
  k_with "ADDSZ" => (((try simp only [List.length_append, List.length_cons, List.length_nil]); omega))
  refine' tells_L ?k6 ?k7 ?k9 ?kB ?c2 ?c3 ?c4 ?c5 ?_
  (case k6 => k_is); (case k7 => k_is); (case k9 => exact fun _ => BindsTo.of_eq rfl); (case c5 => decide); (case kB => exact locs rfl); (case c2 => exact rfl); (case c3 => exact rfl); (case c4 => exact rfl)
  intro dp un gd envs base s L h₁ tk mean mg mb hdp hun hp B' m9 F' N' X' T' M9 env9 A9 T9
  obtain ⟨hS, hls, hit, hok, hlen, hp0, hp1⟩ := hp
  obtain ⟨_, e, hl⟩ := hls.list hS
  cases e
  have hlen' : cs.length ≤ 100 := by omega
  (try dsimp only)
  k_steps
  unfold Stop
  rename Fr _ _ _ _ => F1
  rename News _ _ _ _ => N1
  refine gen_state (PcA exS cs pick) F1 N1 ⟨_, _, _, _, _, _, _, _, _, _, _, _, _, rfl, by assumption, ⟨by assumption, by assumption, by assumption, by assumption⟩, ⟨by assumption, by assumption, by assumption, by assumption⟩, ⟨by assumption, by assumption, by assumption, by assumption⟩, rfl, rfl, rfl, rfl⟩ ?_
  clear F1 N1
  intro h2 tk2 m2 news2 F2 N2 hA
  obtain ⟨P, D1, D2, D3, X, j, ws, ds, p, q, r, K, t1, t2, t3, fl, rfl, hKP, hj3, hX, hXm, ⟨hI, hC, hL, hW⟩, hpa, hpb, hpc, e1, e2, e3, e4⟩ := pcB_of hok hlen hA
  clear hA
  have F3 := fr_over [(Str.ofString "pieces", .ref P), (Str.ofString "pick", .int pick t1), (Str.ofString "place", .int (j : Int) t2), (Str.ofString "fault", .int fl t3)] F2 (by simp [e1, e2, e3, e4])
  simp only [over] at F3
  clear F2 e1 e2 e3 e4
  refine cut (P := Mid s.heap L s (PcM exS pick)) ?_ ?_
  · k_fold
    cases ws with
    | nil =>
      refine wpAny_If ?_
      k_steps
      all_goals (try k_unfold)
      all_goals exact pc_same (by assumption) (by assumption) rfl rfl (by k_mem) (by walk_at "KSUB") hpa hpb hpc
    | cons v1 ws =>
      obtain ⟨c1, hc1, a1, o1, n1, t1, u1, rfl, hm1, hk1, hd1⟩ := hI.2 0 v1 rfl
      have hcol1 : IsTup s.heap a1 #[.int c1.1 t1, .int c1.2 u1] := ⟨o1, hS _ hm1, hk1, n1, hd1⟩
      have hok1 := hok c1 (hC c1 (List.mem_of_getElem? hc1))
      have okp := ok_pale hok1
      have okh := ok_hue hok1
      simp only [List.length_cons] at hW
      refine wpAny_If ?_
      k_steps
      · unfold Stop
        refine wpAny_If ?_
        k_steps
        all_goals (try k_unfold)
        all_goals exact pc_set (by assumption) (by assumption) rfl rfl (by k_mem) hj3 (by walk_at "KSUB") hpa hpb hpc (part_new (by k_mem) (by k_mem) (by assumption) (by assumption) (by assumption) hC hL hok hlen (by assumption))
      all_goals (try k_unfold)
      all_goals exact pc_same (by assumption) (by assumption) rfl rfl (by k_mem) (by walk_at "KSUB") hpa hpb hpc
  · clear F3 N2 hI hC hL hW hpa hpb hpc hX hXm hKP
    rintro f s' ⟨rfl, h, tk, m, news, rfl, F2, N2, P, a, b, c, n, ex, p, q, r, rfl, ⟨⟨va, la, ia⟩, oa, na⟩, ⟨⟨vb, lb, ib⟩, ob, nb⟩, ⟨⟨vc, lc, ic⟩, oc, nc⟩, hm1, t5, hm2⟩
    have F3 := fr_over [(Str.ofString "pieces", .ref P), (Str.ofString "pick", .int pick t5)] F2 (by simp [hm1, hm2])
    simp only [over] at F3
    clear F2
    (try dsimp only)
    k_steps
    unfold Stop
    refine wpAny_If ?_
    have hva := ia.1
    have hvb := ib.1
    have hvc := ic.1
    k_steps
    · (try dsimp only)
      rename News _ _ _ (_ :: _ :: _ :: ex) => N9
      have hsub : ∀ (a b c : Addr × Obj), ∀ p ∈ ex ++ exS, p ∈ (a :: b :: c :: ex) ++ exS := fun a b c => sub_app fun p hp => .tail _ (.tail _ (.tail _ hp))
      refine done_ (by assumption) ⟨_, [p, q ++ r], new_of N9 fun _ h => h, by simp, by simp, ?_, by simp; omega, _, LIn.mk (.head _), items_cons ⟨va, la.mono (hsub _ _ _), ItemsAre.imp ia fun _ _ y => y.mono (hsub _ _ _)⟩
        (items_cons ⟨vb ++ vc, (LIn.mkL (.tail _ (.head _))).mono fun p hp => List.mem_append_left _ hp, items_app (ItemsAre.imp ib fun _ _ y => y.mono (hsub _ _ _)) (ItemsAre.imp ic fun _ _ y => y.mono (hsub _ _ _))⟩ items_nil)⟩
      intro x hx
      simp only [List.mem_cons, List.not_mem_nil, or_false] at hx
      rcases hx with rfl | rfl
      · exact oa
      · exact fun c hc => (List.mem_append.mp hc).elim (ob c) (oc c)
    · unfold Stop
      refine wpAny_If ?_
      k_steps
      all_goals (try dsimp only)
      · rename News _ _ _ (_ :: _ :: _ :: _ :: ex) => N9
        have hsub4 : ∀ (a b c d : Addr × Obj), ∀ p ∈ ex ++ exS, p ∈ (a :: b :: c :: d :: ex) ++ exS := fun a b c d => sub_app fun p hp => .tail _ (.tail _ (.tail _ (.tail _ hp)))
        refine done_ (by assumption) ⟨_, [p ++ q ++ r], new_of N9 fun _ h => h, by simp, by simp, ?_, by simp; omega, _, LIn.mk (.head _), 
          (items_cons ⟨va ++ vb ++ vc, (LIn.mkL (.tail _ (.head _))).mono fun p hp => List.mem_append_left _ hp, items_app (items_app (ItemsAre.imp ia fun _ _ y => y.mono (hsub4 _ _ _ _)) (ItemsAre.imp ib fun _ _ y => y.mono (hsub4 _ _ _ _))) (ItemsAre.imp ic fun _ _ y => y.mono (hsub4 _ _ _ _))⟩ items_nil)⟩
        intro x hx
        rw [List.mem_singleton.mp hx]
        exact fun c hc => (List.mem_append.mp hc).elim (fun hc => (List.mem_append.mp hc).elim (oa c) (ob c)) (oc c)
      · rename News _ _ _ (_ :: ex) => N9
        have hsub1 : ∀ (a : Addr × Obj), ∀ p ∈ ex ++ exS, p ∈ (a :: ex) ++ exS := fun a => sub_app fun p hp => .tail _ hp
        refine done_ (by assumption) ⟨_, [p, q, r], new_of N9 fun _ h => h, by simp, by simp, ?_, by simp; omega, _, LIn.mk (.head _), items_cons ⟨va, la.mono (hsub1 _), ItemsAre.imp ia fun _ _ y => y.mono (hsub1 _)⟩
          (items_cons ⟨vb, lb.mono (hsub1 _), ItemsAre.imp ib fun _ _ y => y.mono (hsub1 _)⟩ (items_cons ⟨vc, lc.mono (hsub1 _), ItemsAre.imp ic fun _ _ y => y.mono (hsub1 _)⟩ items_nil))⟩
        intro x hx
        simp only [List.mem_cons, List.not_mem_nil, or_false] at hx
        rcases hx with rfl | rfl | rfl
        · exact oa
        · exact ob
        · exact oc
end Mine
end
section
open PySem PySem.W PyProof.Rows PySem.Calls
set_option Elab.async false
set_option maxRecDepth 100000
namespace Mine
section
variable {prog : Program} {w : World} {A : Around} {s : Shared} {env : Env} {h₀ : Heap} {body : List Stmt} {Q : Flow → Shared → Prop} {E : Value → Shared → Prop}
theorem zip_turns {elts : List Expr} {k : Nat} {pos : Pos} {l1 l2 : Addr} {xs ys : List Value} {m : Str → Option Value} {news : List (Addr × Obj)}
    (J : Nat → (Str → Option Value) → List (Addr × Obj) → Prop) (hh : A.handled = none) (hl1 : s.heap.IsList l1 xs.toArray) (hl2 : s.heap.IsList l2 ys.toArray) (n1 : l1 ≠ env.locals) (n2 : l2 ≠ env.locals)
    (F : Fr h₀ env.locals s.heap m) (N : News h₀ env.locals s.heap news) (h0 : J 0 m news)
    (turn : ∀ i x y T m₁ news₁ h tk own wr, xs[i]? = some x → ys[i]? = some y → J i m₁ news₁ → h.IsTuple T #[x, y] → (∀ b ∈ wr, ∃ o, (b, o) ∈ own) → (∀ p ∈ news₁, p.1 ∉ wr) → Fr h₀ env.locals h m₁ → News h₀ env.locals h (own ++ news₁) →
      wpAny (model prog w) A (assign (.Tuple elts k pos) env (.ref T)) (fun _ s₂ => wpAny (model prog w) A (execs body env) (LoopStepV h₀ env.locals wr own (J (i + 1)) { s with heap := h, toks := tk } (fun v s' => Q (.ret v) s') fun s' => Q .next s') E s₂) E { s with heap := h, toks := tk })
    (hR : ∀ m' news' h' tk, J (min xs.length ys.length) m' news' → Fr h₀ env.locals h' m' → News h₀ env.locals h' news' → Q .next { s with heap := h', toks := tk }) :
    wpAny (model prog w) A (call (.type "zip") [.ref l1, .ref l2]) (fun xv s₁ => wpAny (model prog w) A (pyIter xv) (fun it s₂ => TurnsAt prog w A h₀ env (.Tuple elts k pos) body Q E it s₂) E s₁) E s := by
  have hlt1 : l1 < s.heap.objs.size := let ⟨_, h, _⟩ := hl1; Heap.lt_size h
  have hlt2 : l2 < s.heap.objs.size := let ⟨_, h, _⟩ := hl2; Heap.lt_size h
  have hLs : env.locals < s.heap.objs.size := F.ns.lt
  have D : ZipApart (s.heap.objs.size + 4) (s.heap.objs.size + 2) (s.heap.objs.size + 3) s.heap.objs.size (s.heap.objs.size + 1) l1 l2 := ktu_apart _ _ _ hlt1 hlt2
  refine call_zip_2 hl1 hl2 fun h' hz hTI hTO hi1 hi2 hsz hk => ?_
  refine wpAny_pyIter_zip hz ?_
  have W := KTurns.ofWalksU (elts := elts) (k := k) (pos := pos) (WalksT.zip2 (prog := prog) (w := w) hh _ _ _ _ _ _ _ D xs.toArray ys.toArray).toU
  have hge : ∀ b ∈ [s.heap.objs.size + 4, s.heap.objs.size + 3, s.heap.objs.size, s.heap.objs.size + 1], s.heap.objs.size ≤ b := by
    intro b hb
    simp only [List.mem_cons, List.not_mem_nil, or_false] at hb
    rcases hb with rfl | rfl | rfl | rfl <;> omega
  refine ⟨_, _, _, _, _, _, _, m, news, J, rfl, W, ?_, fun b hb => ktu_new F (hge b hb), fun p hp hb => ?_, ⟨hz, hTI, ⟨_, _, hTO⟩, hi1, hi2, hl1.at fun o e => hk _ o e, hl2.at fun o e => hk _ o e⟩, F.keeps hk, N.grown hk, h0, ?_, fun h2 tk2 m2 news2 F2 N2 _ hJ => ?_⟩
  · intro hb
    simp only [List.mem_cons, List.not_mem_nil, or_false] at hb
    rcases hb with hb | hb | hb | hb | hb | hb | hb
    · exact Nat.not_lt.mpr (Nat.le.intro hb.symm) hLs
    · exact Nat.not_lt.mpr (Nat.le.intro hb.symm) hLs
    · exact Nat.not_lt.mpr (Nat.le.intro hb.symm) hLs
    · exact Nat.not_lt.mpr (Nat.le_of_eq hb.symm) hLs
    · exact Nat.not_lt.mpr (Nat.le.intro hb.symm) hLs
    · exact n1 hb.symm
    · exact n2 hb.symm
  · have h1 := hge _ hb
    have h2 : p.1 < s.heap.objs.size := Heap.lt_size (N p hp).1
    exact absurd h1 (Nat.not_le.mpr h2)
  · rintro i v m₁ news₁ h₁ tk₁ own hi ⟨T, vals, rfl, ⟨x, y, hx, hy, rfl⟩, hT⟩ hJ hnw hown hget hfp ⟨z1, z2, ⟨_, _, z3⟩, ⟨_, z4, _⟩, ⟨_, z5, _⟩, _⟩ F₁ N₁
    refine turn i x y T m₁ news₁ h₁ tk₁ own _ (by simpa using hx) (by simpa using hy) hJ hT (fun b hb => ?_) hnw F₁ N₁
    have hn := ktu_new F (hge b hb)
    have hbf : b ∈ [s.heap.objs.size + 4, s.heap.objs.size + 2, s.heap.objs.size + 3, s.heap.objs.size, s.heap.objs.size + 1, l1, l2] := W.sub b hb
    simp only [List.mem_cons, List.not_mem_nil, or_false] at hb
    rcases hb with rfl | rfl | rfl | rfl
    · exact ⟨_, hfp _ hbf hn _ z1⟩
    · exact ⟨_, hfp _ hbf hn _ z3⟩
    · exact ⟨_, hfp _ hbf hn _ z4⟩
    · exact ⟨_, hfp _ hbf hn _ z5⟩
  · rw [List.size_toArray, List.size_toArray] at hJ
    exact hR m2 news2 h2 tk2 hJ F2 N2
end
theorem stepV_next {h₀ h' : Heap} {L : Addr} {wr : List Addr} {own all news' : List (Addr × Obj)} {Jn : (Str → Option Value) → List (Addr × Obj) → Prop} {s₁ : Shared} {tk : Nat} {m' : Str → Option Value}
    (F : Fr h₀ L h' m') (N : News h₀ L h' all) (ho : ∀ p ∈ own, p ∈ all) (hn : ∀ p ∈ news', p ∈ all ∧ p.1 ∉ wr) (hj : Jn m' news') : LoopStepU h₀ L wr own Jn s₁ .next { s₁ with heap := h', toks := tk } :=
  LoopStepU.intro F (fun p hp => (List.mem_append.mp hp).elim (fun h => N p (ho p h)) fun h => N p (hn p h).1) (fun p hp => (hn p hp).2) hj
end Mine
end
section
open PySem PySem.W PyProof.Rows PySem.Calls
namespace Mine
theorem foldl_rep : ∀ (n : Nat) (acc : Array Nat), (List.replicate n (#[35] : Array Nat)).foldl (· ++ ·) acc = acc ++ (List.replicate n 35).toArray
  | 0, acc => by simp
  | n + 1, acc => by
    rw [List.replicate_succ, List.foldl_cons, foldl_rep n]
    rw [List.replicate_succ]
    apply Array.ext'
    simp
theorem hash_is : Str.ofString "#" = ⟨#[35]⟩ := by decide +kernel
theorem mulN (k : Int) (h : 0 ≤ k) : Txt.mul (Str.ofString "#") k = sL (List.replicate k.toNat 35) := by
  rw [hash_is]
  unfold Txt.mul sL
  split
  · have : k.toNat = 0 := by omega
    rw [this]; rfl
  · split
    · rename_i h1 h2
      have : k = 1 := by
        simp only [Str.length, Bool.or_eq_true, beq_iff_eq] at h2
        rcases h2 with h2 | h2
        · exact h2
        · cases h2
      subst this; rfl
    · rw [foldl_rep]
      simp
end Mine
end
section
open PySem PySem.W PyProof.Rows PySem.Calls
set_option Elab.async false
set_option maxRecDepth 100000
set_option maxHeartbeats 4000000
namespace Mine
theorem off_Fn : True := by
  w_top off
  trivial
theorem fill_Fn : (PySem.Challenge.rw_pe0158_01.prog = PySem.Challenge.rw_pe0158_01.prog) ∧ hd.heap_39 = hd.heap_39 := by
  k_fill
  exact ⟨rfl, rfl⟩
theorem drop_one (vs : List Value) : (slicePick vs.toArray (some 1) none none).toList = vs.drop 1 := by
  have := slicePick_from' vs.toArray 1
  rw [show (some 1 : Option Int) = some ((1 : Nat) : Int) from rfl, this]
noncomputable def accF {α : Type} (f : α) (p : List α) (qs : List (List α)) (ks : List Int) (i : Nat) : List α := ((qs.zip ks).take i).foldl (fun a x => a ++ List.replicate x.2.toNat f ++ x.1) p
theorem accF_succ {α : Type} {f : α} {p : List α} {qs : List (List α)} {ks : List Int} {i : Nat} {q : List α} {k : Int} (hq : qs[i]? = some q) (hk : ks[i]? = some k) : accF f p qs ks (i + 1) = accF f p qs ks i ++ List.replicate k.toNat f ++ q := by
  have e : (qs.zip ks)[i]? = some (q, k) := by rw [List.getElem?_zip_eq_some]; exact ⟨hq, hk⟩
  unfold accF
  rw [List.take_add_one, e, List.foldl_append]
  rfl
noncomputable abbrev TxB (q : List Nat) (u : Value) : Prop := ∃ t, u = .str (sL q) t
theorem items_tail {I : Type} {P : I → Value → Prop} {vs : List Value} {c : I} {cs : List I} (h : ItemsAre P vs (c :: cs)) {i : Nat} {x : Value} (e : (vs.drop 1)[i]? = some x) : ∃ d, cs[i]? = some d ∧ P d x := by
  rw [List.getElem?_drop, Nat.add_comm] at e
  obtain ⟨d, a, b⟩ := h.2 (i + 1) x e
  exact ⟨d, a, b⟩
theorem items_head {I : Type} {P : I → Value → Prop} {vs : List Value} {c : I} {cs : List I} (h : ItemsAre P vs (c :: cs)) : ∃ x, vs[0]? = some x ∧ P c x := by
  cases vs with
  | nil => exact absurd h.1 (Nat.succ_ne_zero _).symm
  | cons v us =>
    obtain ⟨a, e, p⟩ := h.2 0 v rfl
    cases e
    exact ⟨v, rfl, p⟩
theorem ints_at {vs : List Value} {ns : List Int} (hI : IntsAre vs ns) : ∀ {i : Nat} {v : Value}, vs[i]? = some v → ∃ n t, ns[i]? = some n ∧ v = .int n t := by
  induction hI with
  | nil => intro i v h; simp at h
  | cons n t _ ih =>
    intro i v h
    cases i with
    | zero => simp at h; exact ⟨n, t, rfl, h.symm⟩
    | succ i => exact ih h
theorem not_L {h₀ h : Heap} {L b : Addr} {m : Str → Option Value} {vs : Array Value} (F : Fr h₀ L h m) (hl : h₀.IsList b vs) : b ≠ L :=
  let ⟨_, e, _⟩ := hl; Nat.ne_of_lt (Nat.lt_of_lt_of_le (Heap.lt_size e) F.above)
theorem foldl_repV {α : Type} (v : α) : ∀ (n : Nat) (acc : Array α), (List.replicate n (#[v] : Array α)).foldl (fun x y => x ++ y) acc = acc ++ (List.replicate n v).toArray
  | 0, acc => by simp
  | n + 1, acc => by
    rw [List.replicate_succ, List.foldl_cons, foldl_repV v n]
    rw [List.replicate_succ]
    apply Array.ext'
    simp
theorem t_fillTx (w : World) (a b : Addr) (vs us : List Value) (p : List Nat) (qs : List (List Nat)) (ks : List Int) (t : Tok) : Tells 2 w 80 [.ref a, .ref b, .str (Str.ofString "#") t]
    (fun h => h.IsList a vs.toArray ∧ h.IsList b us.toArray ∧ ItemsAre TxB vs (p :: qs) ∧ IntsAre us ks ∧ p.length ≤ 100 ∧ (∀ q ∈ qs, q.length ≤ 100) ∧ (∀ k ∈ ks, 0 ≤ k ∧ k ≤ 100) ∧ qs.length ≤ 2 ∧ qs.length = ks.length)
    (fun _ v _ => ∃ t, v = .str (sL (accF 35 p qs ks qs.length)) t) := by
  k_with_none
  k_with "execs cons" => ((try k_fold); refine exe_cons ?_; intro q9)
  k_with "SeqC" => (first | refine seqC_next ?_ | refine seqC_ret ?_)
  k_with "storeName" => (k_here; k_dflt (refine store_T (s₀ := s) (by k_asm) (by k_asm) ?_ (by rfl) (by rfl)); k_whole; intro hK9 tkK9 mK9 FK9 NK9; (try k_sweep))
  k_with "storeName" => (k_here; (with_reducible show wpAny _ _ (storeName _ _ (Value.str _ _)) _ _ _); k_dflt (refine store_S (s₀ := s) (by k_asm) (by k_asm) ?_ (by rfl) (by rfl)); k_whole; intro hK9 tkK9 tK9 mK9 FK9 NK9; (try k_sweep))
  k_with "storeName" => (k_here; (with_reducible show wpAny _ _ (storeName _ _ (Value.int _ _)) _ _ _); k_dflt (refine store_I (s₀ := s) (by k_asm) (by k_asm) ?_ (by rfl) (by rfl)); k_whole; intro hK9 tkK9 tK9 mK9 FK9 NK9; (try k_sweep))
  k_with "eval Name" => (k_here; k_dflt (refine name_L (by k_asm) (by exact rfl) ?_ (by rfl) (by rfl) (by decide)); k_whole)
  k_with "exec For Tuple Call cons nil" => (refine stop_ ?_)
  k_with "call type:zip" => (refine stop_ ?_)
  k_with "subscriptTail Name Constant ref int" => (k_here; (with_reducible show wpAny _ _ (subscriptTail _ _ (Value.ref _) (Value.int _ _)) _ _ _); k_dflt (refine item_n (list_at (by k_asm) hl1) (show (0 : Int) = ((0 : Nat) : Int) from rfl) (by decide) hx0 ?_ (by intro _; with_unfolding_all rfl)))
  k_with "subscriptTail Name Slice ref ref" => (k_here; (with_reducible show wpAny _ _ (subscriptTail _ (PySem.Expr.Slice _ _ none _) (Value.ref _) (Value.ref _)) _ _ _); k_dflt (refine kmk_slice_lit (by k_asm) (by k_asm) (list_at (by k_asm) hl1) (by kmk_part) (by kmk_part) (drop_one vs) ?_ (by with_unfolding_all rfl) (by kmk_pure) hz9); intro DK9 hK9 FK9 NK9 l1K9)
  refine' tells_L ?k6 ?k7 ?k9 ?kB ?c2 ?c3 ?c4 ?c5 ?_
  (case k6 => k_is); (case k7 => k_is); (case k9 => exact fun _ => BindsTo.of_eq rfl); (case c5 => decide); (case kB => exact locs rfl); (case c2 => exact rfl); (case c3 => exact rfl); (case c4 => exact rfl)
  intro dp un gd envs base s L h₁ tk mean mg mb hdp hun hp B' m9 F' N' X' T' M9 env9 A9 T9
  obtain ⟨hl1, hl2, hi1, hi2, hp1, hq1, hk1, hn1, hn2⟩ := hp
  obtain ⟨x0, hx0, t0, rfl⟩ := items_head hi1
  have hz9 : vs.toArray.size ≤ sizeLine := by rw [List.size_toArray, hi1.1, List.length_cons, sizeLine_eq]; omega
  k_steps
  unfold Stop
  rename Fr _ _ _ _ => F1
  refine For_turns F1 ?_
  k_steps
  unfold Stop
  rename Fr _ _ _ _ => F2
  rename News _ _ _ _ => N2
  refine zip_turns (xs := vs.drop 1) (ys := us) (fun i m news => news = [] ∧ ∃ tw tf, m (Str.ofString "whole") = some (.str (sL (accF 35 p qs ks i)) tw) ∧ m (Str.ofString "filler") = some (.str (Str.ofString "#") tf) ∧ (accF 35 p qs ks i).length ≤ 100 + 200 * i)
    rfl (News.isList N2 (.head _)) (list_at F2 hl2) (N2 _ (.head _)).2.1 (not_L F2 hl2) F2 News.nil ⟨rfl, _, _, rfl, rfl, hp1⟩ ?_ ?_
  · intro i x y T m₁ news₁ h tk own wr hx hy hJ hT hw hnw F3 N3
    obtain ⟨rfl, tw, tf, e1, e2, hln⟩ := hJ
    obtain ⟨q, hq, tq, rfl⟩ := items_tail hi1 hx
    obtain ⟨k, tk9, hk, rfl⟩ := ints_at hi2 hy
    have hT9 : IsTup h T #[.str (sL q) tq, .int k tk9] := hT
    have hqm := hq1 q (List.mem_of_getElem? hq)
    obtain ⟨hk0, hk9⟩ := hk1 k (List.mem_of_getElem? hk)
    have hi9 : i < 2 := Nat.lt_of_lt_of_le (List.getElem?_eq_some_iff.mp hq).1 hn1
    have hsu := accF_succ (f := 35) (p := p) hq hk
    have F4 := fr_over [(Str.ofString "whole", .str (sL (accF 35 p qs ks i)) tw), (Str.ofString "filler", .str (Str.ofString "#") tf)] F3 (by simp [e1, e2])
    simp only [over] at F4
    clear F3 e1 e2 hx hy hT
    generalize accF 35 p qs ks i = acc at hsu hln F4
    have hla : (sL acc).length = acc.length := sL_len acc
    have hlq : (sL q).length = q.length := sL_len q
    have hlm : (Txt.mul (Str.ofString "#") k).length = k.toNat := by rw [mulN k hk0, sL_len, List.length_replicate]
    k_steps
    rename News _ _ _ _ => N9
    refine stepV_next (news' := []) (by assumption) N9 (fun p hp => List.mem_append_left _ hp) (fun _ h => nomatch h) ⟨rfl, _, _, congrArg (fun z => some (Value.str z _)) ?_, rfl, ?_⟩
    · rw [mulN k hk0, sL_append, sL_append, ← hsu]
    · rw [hsu]; simp only [List.length_append, List.length_replicate]; omega
  · intro m' news' h' tk hJ F3 N3
    obtain ⟨rfl, tw, tf, e1, e2, hln⟩ := hJ
    have F4 := fr_over [(Str.ofString "whole", .str (sL (accF 35 p qs ks (min (vs.drop 1).length us.length))) tw)] F3 (by simp [e1])
    simp only [over] at F4
    clear F3 e1 e2
    k_steps
    have e9 : min (vs.drop 1).length us.length = qs.length := by rw [List.length_drop, hi1.1, hi2.length, ← hn2, List.length_cons]; omega
    exact done_ (by assumption) ⟨tw, by rw [e9]⟩
theorem mul_h {prog : Program} {w : World} {A : Around} {E : Value → Shared → Prop} {s : Shared} {h₀ : Heap} {L l : Addr} {m : Str → Option Value} {news : List (Addr × Obj)} {v : Value} {k : Nat} {x : Int} {u : Tok} {Q : Value → Shared → Prop}
    (F : Fr h₀ L s.heap m) (N : News h₀ L s.heap news) (ho : h₀.get? l = some (listOf #[v] k)) (h0 : 0 ≤ x) (h1 : x ≤ 1000)
    (h : ∀ D h', Fr h₀ L h' m → News h₀ L h' ((D, listOf (List.replicate x.toNat v).toArray 0) :: news) → (∀ p ∈ news, p.1 < D) → Q (.ref D) { s with heap := h' }) :
    wpAny (model prog w) A (binaryOp .Mult (.ref l) (.int x u)) Q E s := by
  refine mul_list F N (F.keep _ _ ho) (by omega) (by omega) (by simp only [List.size_toArray, List.length_cons, List.length_nil]; omega) fun h' F' N' => h _ h' F' ?_ fun p hp => Heap.lt_size (N p hp).1
  have e : (if (#[v] : Array Value).isEmpty = true then 0 else x.toNat) = x.toNat := by simp
  rw [e, foldl_repV] at N'
  simpa using N'
noncomputable def FrJ (h₀ : Heap) (c X0 : Addr) (i : Nat) (acc : List Value) (m : Str → Option Value) (news : List (Addr × Obj)) : Prop :=
  ∃ X, m (Str.ofString "whole") = some (.ref X) ∧ m (Str.ofString "filler") = some (.ref c) ∧ ((i = 0 ∧ X = X0 ∧ news = [] ∧ h₀.IsList X acc.toArray) ∨ ∃ n, news = [(X, listOf acc.toArray n)])
theorem frJ_list {h₀ h : Heap} {L X X0 : Addr} {i : Nat} {m : Str → Option Value} {acc : List Value} {news all : List (Addr × Obj)} (hX : (i = 0 ∧ X = X0 ∧ news = [] ∧ h₀.IsList X acc.toArray) ∨ ∃ n, news = [(X, listOf acc.toArray n)]) (F : Fr h₀ L h m) (N : News h₀ L h all) (hs : ∀ p ∈ news, p ∈ all) : h.IsList X acc.toArray := by
  rcases hX with ⟨_, _, _, hl⟩ | ⟨n, rfl⟩
  · exact list_at F hl
  · exact News.isList N (hs _ (.head _))
noncomputable def PostFx (vs : List Value) (z : Prop) (acc : List Value) (h : Heap) (r : Value) (h' : Heap) : Prop := (z ∧ vs[0]? = some r) ∨ ∃ (X : Addr) (n : Nat), r = .ref X ∧ h.get? X = none ∧ h'.get? X = some (listOf acc.toArray n)
theorem t_fillRx (w : World) (a b c : Addr) (vs us : List Value) (vf : Value) (n : Nat) (p : List Value) (qs : List (List Value)) (ks : List Int) : Tells 2 w 80 [.ref a, .ref b, .ref c]
    (fun h => h.IsList a vs.toArray ∧ h.IsList b us.toArray ∧ h.get? c = some (listOf #[vf] n) ∧ ItemsAre (fun q u => ∃ X, u = .ref X ∧ h.IsList X q.toArray) vs (p :: qs) ∧ IntsAre us ks ∧ p.length ≤ 100 ∧ (∀ q ∈ qs, q.length ≤ 100) ∧ (∀ k ∈ ks, 0 ≤ k ∧ k ≤ 100) ∧ qs.length ≤ 2 ∧ qs.length = ks.length)
    (PostFx vs (qs.length = 0) (accF vf p qs ks qs.length)) := by
  k_with_none
  k_with "execs cons" => ((try k_fold); refine exe_cons ?_; intro q9)
  k_with "SeqC" => (first | refine seqC_next ?_ | refine seqC_ret ?_)
  k_with "storeName" => (k_here; k_dflt (refine store_T (s₀ := s) (by k_asm) (by k_asm) ?_ (by rfl) (by rfl)); k_whole; intro hK9 tkK9 mK9 FK9 NK9; (try k_sweep))
  k_with "storeName" => (k_here; (with_reducible show wpAny _ _ (storeName _ _ (Value.str _ _)) _ _ _); k_dflt (refine store_S (s₀ := s) (by k_asm) (by k_asm) ?_ (by rfl) (by rfl)); k_whole; intro hK9 tkK9 tK9 mK9 FK9 NK9; (try k_sweep))
  k_with "storeName" => (k_here; (with_reducible show wpAny _ _ (storeName _ _ (Value.int _ _)) _ _ _); k_dflt (refine store_I (s₀ := s) (by k_asm) (by k_asm) ?_ (by rfl) (by rfl)); k_whole; intro hK9 tkK9 tK9 mK9 FK9 NK9; (try k_sweep))
  k_with "eval Name" => (k_here; k_dflt (refine name_L (by k_asm) (by exact rfl) ?_ (by rfl) (by rfl) (by decide)); k_whole)
  k_with "exec For Tuple Call cons nil" => (refine stop_ ?_)
  k_with "call type:zip" => (refine stop_ ?_)
  k_with "subscriptTail Name Constant ref int" => (k_here; (with_reducible show wpAny _ _ (subscriptTail _ _ (Value.ref _) (Value.int _ _)) _ _ _); k_dflt (refine item_n (list_at (by k_asm) hl1) (show (0 : Int) = ((0 : Nat) : Int) from rfl) (by decide) hx0 ?_ (by intro _; with_unfolding_all rfl)))
  k_with "subscriptTail Name Slice ref ref" => (k_here; (with_reducible show wpAny _ _ (subscriptTail _ (PySem.Expr.Slice _ _ none _) (Value.ref _) (Value.ref _)) _ _ _); k_dflt (refine kmk_slice_lit (by k_asm) (by k_asm) (list_at (by k_asm) hl1) (by kmk_part) (by kmk_part) (drop_one vs) ?_ (by with_unfolding_all rfl) (by kmk_pure) hz9); intro DK9 hK9 FK9 NK9 l1K9)
  k_with "binaryOp Mult ref int" => (k_here; k_dflt (refine mul_h (by k_asm) (by k_asm) hc (by assumption) (by omega) ?_); intro DK9 hK9 FK9 NK9 l1K9; (try k_sweep))
  k_with "binaryOp Add ref ref" => (k_here; k_dflt (refine add_raw (by k_asm) (by k_asm) (by first | exact News.isList (by k_asm) (.head _) | exact frJ_list hX (by k_asm) (by k_asm) (fun p hp => .tail _ (List.mem_append_right _ hp))) (by first | exact list_at (by k_asm) hql | exact News.isList (by k_asm) (.head _)) (by (simp only [List.length_append, List.length_replicate]; omega)) ?_); intro DK9 hK9 FK9 NK9 l1K9; (try k_sweep))
  refine' tells_L ?k6 ?k7 ?k9 ?kB ?c2 ?c3 ?c4 ?c5 ?_
  (case k6 => k_is); (case k7 => k_is); (case k9 => exact fun _ => BindsTo.of_eq rfl); (case c5 => decide); (case kB => exact locs rfl); (case c2 => exact rfl); (case c3 => exact rfl); (case c4 => exact rfl)
  intro dp un gd envs base s L h₁ tk mean mg mb hdp hun hp B' m9 F' N' X' T' M9 env9 A9 T9
  obtain ⟨hl1, hl2, hc, hi1, hi2, hp1, hq1, hk1, hn1, hn2⟩ := hp
  obtain ⟨x0, hx0, X0, rfl, hX0⟩ := items_head hi1
  have hz9 : vs.toArray.size ≤ sizeLine := by rw [List.size_toArray, hi1.1, List.length_cons, sizeLine_eq]; omega
  k_steps
  unfold Stop
  rename Fr _ _ _ _ => F1
  refine For_turns F1 ?_
  k_steps
  unfold Stop
  rename Fr _ _ _ _ => F2
  rename News _ _ _ _ => N2
  refine zip_turns (xs := vs.drop 1) (ys := us) (fun i m news => FrJ s.heap c X0 i (accF vf p qs ks i) m news ∧ (accF vf p qs ks i).length ≤ 100 + 200 * i)
    rfl (News.isList N2 (.head _)) (list_at F2 hl2) (N2 _ (.head _)).2.1 (not_L F2 hl2) F2 News.nil ⟨⟨X0, rfl, rfl, .inl ⟨rfl, rfl, rfl, hX0⟩⟩, hp1⟩ ?_ ?_
  · intro i x y T m₁ news₁ h tk own wr hx hy hJ hT hw hnw F3 N3
    obtain ⟨⟨X, e1, e2, hX⟩, hln⟩ := hJ
    obtain ⟨q, hq, Y, rfl, hql⟩ := items_tail hi1 hx
    obtain ⟨k, tk9, hk, rfl⟩ := ints_at hi2 hy
    have hT9 : IsTup h T #[.ref Y, .int k tk9] := hT
    have hqm := hq1 q (List.mem_of_getElem? hq)
    obtain ⟨hk0, hk9⟩ := hk1 k (List.mem_of_getElem? hk)
    have hi9 : i < 2 := Nat.lt_of_lt_of_le (List.getElem?_eq_some_iff.mp hq).1 hn1
    have hsu := accF_succ (f := vf) (p := p) hq hk
    have F4 := fr_over [(Str.ofString "whole", .ref X), (Str.ofString "filler", .ref c)] F3 (by simp [e1, e2])
    simp only [over] at F4
    clear F3 e1 e2 hx hy hT
    generalize accF vf p qs ks i = acc at hsu hln F4 hX
    k_steps
    rename News _ _ _ _ => N9
    refine stepV_next (news' := [_]) (by assumption) N9 (fun p hp => .tail _ (.tail _ (.tail _ (List.mem_append_left _ hp)))) (fun p hp => ⟨List.mem_singleton.mp hp ▸ .head _, fun hb => ?_⟩) ⟨⟨_, rfl, rfl, .inr ⟨0, by rw [hsu]⟩⟩, ?_⟩
    · obtain ⟨o, ho⟩ := hw _ hb
      rw [List.mem_singleton.mp hp] at ho
      exact absurd (l1K9 _ (.tail _ (.tail _ (List.mem_append_left _ ho)))) (Nat.lt_irrefl _)
    · rw [hsu]; simp only [List.length_append, List.length_replicate]; omega
  · intro m' news' h' tk hJ F3 N3
    obtain ⟨⟨X, e1, e2, hX⟩, hln⟩ := hJ
    have F4 := fr_over [(Str.ofString "whole", .ref X)] F3 (by simp [e1])
    simp only [over] at F4
    clear F3 e1 e2
    k_steps
    have e9 : min (vs.drop 1).length us.length = qs.length := by rw [List.length_drop, hi1.1, hi2.length, ← hn2, List.length_cons]; omega
    rw [e9] at hX
    rename Fr _ _ _ _ => F9
    rename News _ _ _ _ => N9
    refine done_ F9 ?_
    rcases hX with ⟨z, rfl, _⟩ | ⟨n, rfl⟩
    · exact .inl ⟨z, hx0⟩
    · exact .inr ⟨X, n, rfl, (N9 _ (.head _)).2.2, (N9 _ (.head _)).1⟩
end Mine
end
section
open PySem PySem.W PyProof.Rows PySem.Calls
set_option Elab.async false
set_option maxRecDepth 100000
set_option maxHeartbeats 2000000
namespace Mine
theorem off_Tb : True := by
  w_top off
  trivial
theorem fill_Tb : (PySem.Challenge.rw_pe0158_01.prog = PySem.Challenge.rw_pe0158_01.prog) ∧ hd.heap_39 = hd.heap_39 := by
  k_fill
  exact ⟨rfl, rfl⟩
noncomputable def costC (c d : Int × Int) : Int := if d.1 = c.1 then (if d.2 = c.2 then 0 else 1) else 2
inductive TbO (cs1 cs2 : List (Int × Int)) (l1 l2 : Addr) (i : Nat) (m : Str → Option Value) (news : List (Addr × Obj)) : Prop
  | mk (D : Addr) (vs : List Value) (cc : Nat) (ns : List Int) (x1 : news = [(D, listOf vs.toArray cc)]) (x2 : IntsAre vs ns) (x3 : ns.length = cs2.length + 1) (x4 : ∀ j, j ≤ cs2.length → ns.getD j 0 = et costC cs1 cs2 i j) (x5 : m (Str.ofString "row") = some (.ref D)) (x6 : m (Str.ofString "one") = some (.ref l1)) (x7 : m (Str.ofString "two") = some (.ref l2)) : TbO cs1 cs2 l1 l2 i m news
inductive TbI (cs1 cs2 : List (Int × Int)) (l1 l2 : Addr) (c : Int × Int) (D Nw I : Addr) (vs : List Value) (cc : Nat) (o : Obj) (i j : Nat) (m : Str → Option Value) (news : List (Addr × Obj)) : Prop
  | mk (ws : List Value) (dc : Nat) (ks : List Int) (x1 : news = [(Nw, listOf ws.toArray dc), (D, listOf vs.toArray cc), (I, o)]) (x2 : IntsAre ws ks) (x3 : ks.length = j + 1) (x4 : ∀ k, k ≤ j → ks.getD k 0 = et costC cs1 cs2 (i + 1) k) (x5 : m (Str.ofString "row") = some (.ref D)) (x6 : m (Str.ofString "news") = some (.ref Nw)) (x7 : m (Str.ofString "one") = some (.ref l1)) (x8 : m (Str.ofString "two") = some (.ref l2)) (x9 : ∃ t, m (Str.ofString "hue") = some (.int c.1 t)) (x10 : ∃ t, m (Str.ofString "pale") = some (.int c.2 t)) : TbI cs1 cs2 l1 l2 c D Nw I vs cc o i j m news
theorem news_rot {h₀ h : Heap} {L : Addr} {p q r : Addr × Obj} (N : News h₀ L h [p, q, r]) : News h₀ L h [p, r, q] := fun x hx => N x (by simp at hx ⊢; rcases hx with h | h | h <;> simp [h])
theorem pick_hi {a b c : Addr} (h : a < c ∧ b < c) : ∃ x, x = c ∧ a < x ∧ b < x := ⟨c, rfl, h⟩
theorem tb_end {h₀ h : Heap} {L I2 D I Nw : Addr} {o o2 : Obj} {s : Shared} {Q : Flow → Shared → Prop} {tk : Nat} {m : Str → Option Value} {cs1 cs2 : List (Int × Int)} {l1 l2 : Addr} {c : Int × Int} {vs ws : List Value} {cc dc i j : Nat} {ks : List Int} {V : Int} {tv t5 t6 : Tok}
    (F : Fr h₀ L h m) (N : News h₀ L h [(I2, o2), (Nw, listOf (ws.toArray.push (.int V tv)) (dc + 1)), (D, listOf vs.toArray cc), (I, o)]) (hne : ∀ p ∈ [(Nw, listOf ws.toArray dc), (D, listOf vs.toArray cc), (I, o)], p.1 ≠ I2)
    (hI : IntsAre ws ks) (hn : ks.length = j + 1) (hrow : ∀ k, k ≤ j → ks.getD k 0 = et costC cs1 cs2 (i + 1) k) (hV : V = et costC cs1 cs2 (i + 1) (j + 1))
    (e1 : m (Str.ofString "row") = some (.ref D)) (e2 : m (Str.ofString "news") = some (.ref Nw)) (e3 : m (Str.ofString "one") = some (.ref l1)) (e4 : m (Str.ofString "two") = some (.ref l2)) (e5 : m (Str.ofString "hue") = some (.int c.1 t5)) (e6 : m (Str.ofString "pale") = some (.int c.2 t6)) :
    Turn h₀ L (I2, o2) (TbI cs1 cs2 l1 l2 c D Nw I vs cc o i (j + 1)) s Q .next { s with heap := h, toks := tk } := by
  rw [List.push_toArray] at N
  refine Turn.next F N (fun p hp => ?_) ⟨_, _, ks ++ [V], rfl, hI.append (.cons _ _ .nil), by simp [hn], ?_, e1, e2, e3, e4, ⟨_, e5⟩, ⟨_, e6⟩⟩
  · simp only [List.mem_cons, List.not_mem_nil, or_false] at hp
    rcases hp with rfl | rfl | rfl
    · exact hne (Nw, listOf ws.toArray dc) (by simp)
    · exact hne _ (by simp)
    · exact hne _ (by simp)
  · intro k hk
    rw [List.getD_eq_getElem?_getD, List.getElem?_append]
    by_cases h1 : k < ks.length
    · rw [if_pos h1, ← List.getD_eq_getElem?_getD, hrow k (by omega)]
    · rw [if_neg h1, show k - ks.length = 0 by omega, show k = j + 1 by omega]
      exact hV
theorem t_table (w : World) (l1 l2 : Addr) (vs1 vs2 : List Value) (cs1 cs2 : List (Int × Int)) : Tells 2 w 87 [.ref l1, .ref l2]
    (fun h => h.IsList l1 vs1.toArray ∧ ItemsAre (IsCol h) vs1 cs1 ∧ h.IsList l2 vs2.toArray ∧ ItemsAre (IsCol h) vs2 cs2 ∧ cs1.length ≤ 40 ∧ cs2.length ≤ 40) (fun _ r _ => ∃ t, r = .int (ed costC cs1.reverse cs2.reverse) t) := by
  k_with_none
  k_with "execs cons" => ((try k_fold); refine exe_cons ?_; intro q9)
  k_with "SeqC" => (first | refine seqC_next ?_ | refine seqC_ret ?_)
  k_with "storeName" => (k_here; k_dflt (refine store_T (s₀ := s) (by k_asm) (by k_asm) ?_ (by rfl) (by rfl)); k_whole; intro hK9 tkK9 mK9 FK9 NK9; (try k_sweep))
  k_with "storeName" => (k_here; (with_reducible show wpAny _ _ (storeName _ _ (Value.str _ _)) _ _ _); k_dflt (refine store_S (s₀ := s) (by k_asm) (by k_asm) ?_ (by rfl) (by rfl)); k_whole; intro hK9 tkK9 tK9 mK9 FK9 NK9; (try k_sweep))
  k_with "storeName" => (k_here; (with_reducible show wpAny _ _ (storeName _ _ (Value.int _ _)) _ _ _); k_dflt (refine store_I (s₀ := s) (by k_asm) (by k_asm) ?_ (by rfl) (by rfl)); k_whole; intro hK9 tkK9 tK9 mK9 FK9 NK9; (try k_sweep))
  k_with "eval Name" => (k_here; k_dflt (refine name_L (by k_asm) (by exact rfl) ?_ (by rfl) (by rfl) (by decide)); k_whole)
  k_with "call type:list" => ((k_here; (with_reducible show wpAny _ _ (call (Value.type _) [Value.ref _]) _ _ _); (rename IsRange _ _ _ _ _ _ _ _ => rgXK9); (k_dflt (refine list_range_b (by rfl) (by k_asm) (by k_asm) rgXK9 (by omega) ?_; k_whole)); intro DK9 vsK9 cK9 hK9 tkK9 FK9 NK9 l1K9 hIK9; (try dsimp only)))
  k_with "exec For Tuple Name cons nil" => (refine stop_ ?_)
  k_with "exec For Name Call cons nil" => (refine stop_ ?_)
  k_with "call builtin:len" => ((k_here; (with_reducible show wpAny _ _ (call (Value.builtin "len") [Value.ref _]) _ _ _); k_dflt (refine' len_n (list_at (by k_asm) (by assumption)) (by assumption) (by omega) ?_); (try dsimp only)))
  k_with "subscriptTail" => ((k_here; (with_reducible show wpAny _ _ (subscriptTail _ _ (Value.ref _) (Value.int (Nat.cast _) _)) _ _ _); (with_unfolding_all refine' item_n (list_at (by k_asm) (by assumption)) rfl (by omega) (by assumption) ?_ (fun _ => by with_unfolding_all rfl)); (try dsimp only)))
  k_with "call builtin:list.append" => ((k_here; (with_reducible show wpAny _ _ (call (Value.builtin _) [Value.ref _, _]) _ _ _); k_dflt (refine' append_K (by k_asm) (by k_asm) (Upd.tail (by assumption) (Upd.head (by assumption))) ?_ (by rw [List.size_toArray, IntsAre.length (by assumption)]; show _ ≤ 1000; omega)); intro hK9 FK9 NK9; (try dsimp only)))
  k_with "call builtin:min" => ((k_here; (with_reducible show wpAny _ _ (call (Value.builtin "min") [Value.int _ _, Value.int _ _, Value.int _ _]) _ _ _); k_dflt (refine min3_N (by rfl) (by k_asm) (by k_asm) ?_; k_whole); intro hK9 tkK9 vK9 FK9 NK9; (try dsimp only)))
  refine' tells_L ?k6 ?k7 ?k9 ?kB ?c2 ?c3 ?c4 ?c5 ?_
  (case k6 => k_is); (case k7 => k_is); (case k9 => exact fun _ => BindsTo.of_eq rfl); (case c5 => decide); (case kB => exact locs rfl); (case c2 => exact rfl); (case c3 => exact rfl); (case c4 => exact rfl)
  intro dp un gd envs base s L h₁ tk mean mg mb hdp hun hp B' m9 F' N' X' T' M9 env9 A9 T9
  obtain ⟨hl1, hi1, hl2, hi2, hn1, hn2⟩ := hp
  have hv1 := hi1.1
  have hv2 := hi2.1
  (try dsimp only)
  k_steps
  unfold Stop
  rename Fr _ _ _ _ => F1
  rename News _ _ _ _ => N1
  rename IntsAre _ _ => hI1
  refine for_base (L := L) (J := TbO cs1 cs2 l1 l2) rfl rfl hl1 F1 N1 ?_ ?_ ?_ ?_
  · refine ⟨_, _, _, _, rfl, hI1, by rw [rangeInts_length], ?_, rfl, rfl, rfl⟩
    intro k hk
    rw [et_left (by omega)]
    simp [rangeInts, List.getD_eq_getElem?_getD, Nat.lt_succ_of_le hk]
    omega
  · intro P hP
    refine ld F1 rfl hP
  · intro I i v m₁ news₁ h tk o hv hJ hne F2 N2
    obtain ⟨D, vs, cc, ns, rfl, hI, hns, hrow, hm1, hm2, hm3⟩ := hJ
    obtain ⟨c, hci, a, t1, u1, rfl, hcol⟩ := hi1.2 i v hv
    clear F1 N1 hI1
    have F3 := fr_over [(Str.ofString "row", .ref D), (Str.ofString "one", .ref l1), (Str.ofString "two", .ref l2)] F2 (by simp [hm1, hm2, hm3])
    simp only [over] at F3
    clear F2
    have hd1 : D ≠ I := hne _ (.head _)
    k_steps
    unfold Stop
    rename Fr _ _ _ _ => F4
    rename News _ _ _ _ => N4
    rename (_ ∧ D < _) => hlt3
    obtain ⟨Nw, hNw, hlt4⟩ := pick_hi hlt3
    subst hNw
    have hi9 : i < cs1.length := (List.getElem?_eq_some_iff.mp hci).1
    have hc9 : cs1[i] = c := (List.getElem?_eq_some_iff.mp hci).2
    refine cut (for_range (L := L) (n := cs2.length) (Q := Mid s.heap L s (TbI cs1 cs2 l1 l2 c D Nw I vs cc o i cs2.length))
      (J := TbI cs1 cs2 l1 l2 c D Nw I vs cc o i) rfl rfl (by omega) F4 (news_rot N4) ?_ ?_ ?_ ?_) ?_
    · refine ⟨_, _, _, rfl, IntsAre.cons _ _ IntsAre.nil, rfl, ?_, rfl, rfl, rfl, rfl, ⟨_, rfl⟩, ⟨_, rfl⟩⟩
      intro k hk
      have : k = 0 := by omega
      subst this
      show ns.getD 0 0 + 2 = _
      rw [hrow 0 (by omega), et_right (by omega), et_right (by omega)]
      push_cast; omega
    · intro P hP
      k_steps
      exact hP _ _ _ _ _ _ (by assumption) (by assumption) (news_rot (by assumption))
    · intro I2 j m₁ news₁ h tk t o2 hj hJ hne2 F5 N5
      obtain ⟨ws, dc, ks, rfl, hI6, hn6, hrow6, hm1, hm2, hm3, hm4, ⟨t5, hm5⟩, ⟨t6, hm6⟩⟩ := hJ
      clear F4 N4
      have F6 := fr_over [(Str.ofString "row", .ref D), (Str.ofString "news", .ref Nw), (Str.ofString "one", .ref l1), (Str.ofString "two", .ref l2), (Str.ofString "hue", .int c.1 t5), (Str.ofString "pale", .int c.2 t6)] F5 (by simp [hm1, hm2, hm3, hm4, hm5, hm6])
      simp only [over] at F6
      clear F5
      have hj9 : j < cs2.length := by omega
      obtain ⟨d, hdj⟩ : ∃ d, cs2[j]? = some d := ⟨_, List.getElem?_eq_getElem hj9⟩
      obtain ⟨v2, hv2j⟩ : ∃ v, vs2[j]? = some v := ⟨_, List.getElem?_eq_getElem (by omega)⟩
      obtain ⟨d', hdj', a2, t2, u2, rfl, hcol2⟩ := hi2.2 j v2 hv2j
      have hdd : d' = d := Option.some.inj (hdj'.symm.trans hdj)
      subst hdd
      have hix : (j : Int) < ns.length := by omega
      have hix1 : (j : Int) + 1 < ns.length := by omega
      have hiy : (j : Int) < ks.length := by omega
      have hu1 : (I2, o2).1 ≠ Nw := fun e => hne2 _ (.head _) e.symm
      have hu2 : ∀ p ∈ [(D, listOf vs.toArray cc), (I, o)], p.1 ≠ Nw := fun p hp => by
        simp only [List.mem_cons, List.not_mem_nil, or_false] at hp
        rcases hp with rfl | rfl
        · exact Nat.ne_of_lt hlt4.2
        · exact Nat.ne_of_lt hlt4.1
      k_steps
      all_goals (try dsimp only)
      all_goals refine tb_end (c := c) (by assumption) (by assumption) hne2 hI6 hn6 hrow6 ?_ rfl rfl rfl rfl rfl rfl
      all_goals
        rw [Int.toNat_natCast, show ((j : Int) + 1).toNat = j + 1 by omega, hrow (j + 1) (by omega), hrow j (by omega), hrow6 j (Nat.le_refl _), et_step (by omega) hj9, hc9, show cs2[j] = d' from (List.getElem?_eq_some_iff.mp hdj).2]
        unfold costC
        simp only [*, if_true, if_false]
        omega
    · intro m' news' h' tk hJ F8 N8
      exact Mid.intro F8 N8 hJ
    · rintro f s' ⟨rfl, h, tk, m, news, rfl, F8, N8, ws, dc, ks, rfl, hI6, hn6, hrow6, hm1, hm2, hm3, hm4, ⟨t5, hm5⟩, ⟨t6, hm6⟩⟩
      clear F4 N4
      have F9 := fr_over [(Str.ofString "news", .ref Nw), (Str.ofString "one", .ref l1), (Str.ofString "two", .ref l2)] F8 (by simp [hm2, hm3, hm4])
      simp only [over] at F9
      clear F8
      (try dsimp only)
      k_steps
      all_goals (try dsimp only)
      refine Turn.drop (news' := [(Nw, listOf ws.toArray dc)]) (by assumption) (by assumption) (by simp) (fun p hp => by rw [List.mem_singleton.mp hp]; simp) (fun p hp => by rw [List.mem_singleton.mp hp]; exact Nat.ne_of_gt hlt4.1) ⟨Nw, ws, dc, ks, rfl, hI6, hn6, hrow6, rfl, rfl, rfl⟩
  · intro m' news' h' tk hJ F5 N5
    obtain ⟨D, vs, cc, ns, rfl, hI, hns, hrow, hm1, hm2, hm3⟩ := hJ
    clear F1 N1 hI1
    have F6 := fr_over [(Str.ofString "row", .ref D)] F5 (by simp [hm1])
    simp only [over] at F6
    clear F5
    (try dsimp only)
    k_steps
    refine done_ (by assumption) ⟨_, congrArg (Value.int · _) ?_⟩
    rw [show (-1 + (ns.length : Int)).toNat = cs2.length by omega, hrow _ (Nat.le_refl _), hv1, et_last]
end Mine
end
section
open PySem PySem.W PyProof.Rows PySem.Calls
set_option maxRecDepth 100000
namespace Mine
noncomputable abbrev dotsL : List Nat := [46, 46, 46]
theorem dots_is : Str.ofString "..." = sL dotsL := by decide +kernel
noncomputable def joinL : List (List Nat) → List Nat
  | [] => []
  | [p] => p
  | p :: q :: r => p ++ dotsL ++ joinL (q :: r)
theorem joinL_cons (p q : List Nat) (r : List (List Nat)) : joinL (p :: q :: r) = p ++ (dotsL ++ joinL (q :: r)) := by rw [joinL, List.append_assoc]
theorem join_is : ∀ ps : List (List Nat), Str.join (sL dotsL) (ps.map sL) = sL (joinL ps)
  | [] => rfl
  | [p] => rfl
  | p :: q :: r => by
    have ih := join_is (q :: r)
    show sL p ++ sL dotsL ++ Str.join (sL dotsL) ((q :: r).map sL) = _
    rw [ih, sL_append, sL_append, joinL]
open PySem.StrLaws in
theorem parts_is : ∀ (ps : List (List Nat)) (pre : List Nat) (cuts : List Nat) (f : Nat), ps ≠ [] → (∀ p ∈ ps, 46 ∉ p) → ChainG (sL (pre ++ joinL ps)) (sL dotsL) (pre ++ joinL ps).length pre.length cuts f →
    (∀ k, f ≤ k → ¬ At (sL (pre ++ joinL ps)) (sL dotsL) (pre ++ joinL ps).length k) → partsFrom (sL (pre ++ joinL ps)) 3 pre.length cuts = ps.map sL ∧ (cuts = [] ↔ ps.length = 1)
  | [], _, _, _, h, _, _, _ => absurd rfl h
  | [p], pre, cuts, f, _, hp, hG, _ => by
    have hp := hp p (.head _)
    cases cuts with
    | nil =>
      refine ⟨?_, by simp⟩
      show [PySem.Builtin.Str.strSub (sL (pre ++ p)) pre.length (sL (pre ++ p)).length] = [sL p]
      refine congrArg (fun y => [y]) (Str.ext' (Array.toList_inj.mp ?_))
      rw [strSub_toList, sL_len]
      show ((pre ++ p).drop pre.length).take ((pre ++ p).length - pre.length) = p
      rw [List.drop_left' rfl, List.take_of_length_le (by rw [List.length_append]; omega)]
    | cons c r =>
      exfalso
      obtain ⟨h1, h2, _⟩ := hG
      have ho := occ_at.mp h2
      obtain ⟨h3, h4⟩ := ho
      have h5 : (pre ++ joinL [p]).drop c = p.drop (c - pre.length) := by
        show (pre ++ p).drop c = _
        rw [List.drop_append, List.drop_eq_nil_of_le h1, List.nil_append]
      rw [h5] at h4
      have : 46 ∈ p.drop (c - pre.length) := List.mem_of_mem_take (i := 3) (by rw [show (3 : Nat) = dotsL.length from rfl, h4]; exact .head _)
      exact hp (List.mem_of_mem_drop this)
  | p :: q :: rest, pre, cuts, f, _, hp, hG, hn => by
    have hpp := hp p (.head _)
    have e : pre ++ joinL (p :: q :: rest) = (pre ++ p ++ dotsL) ++ joinL (q :: rest) := by rw [joinL_cons]; simp
    have e2 : pre ++ joinL (p :: q :: rest) = (pre ++ p) ++ (dotsL ++ joinL (q :: rest)) := by rw [joinL_cons]; simp
    have hlen : (pre ++ joinL (p :: q :: rest)).length = pre.length + p.length + 3 + (joinL (q :: rest)).length := by rw [e]; simp only [List.length_append]; rfl
    have hat : At (sL (pre ++ joinL (p :: q :: rest))) (sL dotsL) (pre ++ joinL (p :: q :: rest)).length (pre.length + p.length) := by
      refine occ_at.mpr ⟨?_, ?_⟩
      · rw [hlen]; show _ + 3 ≤ _; omega
      · rw [e2, List.drop_left' (by simp), List.take_left' rfl]
    cases cuts with
    | nil =>
      exfalso
      have hf : f = pre.length := hG
      exact hn _ (by omega) hat
    | cons c r =>
      obtain ⟨h1, h2, h3, h4⟩ := hG
      have hc1 : c ≤ pre.length + p.length := by
        apply Nat.le_of_not_lt
        intro hlt
        exact h3 _ (by omega) hlt hat
      have hc : c = pre.length + p.length := by
        apply Nat.le_antisymm hc1
        apply Nat.le_of_not_lt
        intro hlt
        obtain ⟨_, h6⟩ := occ_at.mp h2
        have h7 : (pre ++ joinL (p :: q :: rest)).drop c = p.drop (c - pre.length) ++ (dotsL ++ joinL (q :: rest)) := by
          rw [joinL_cons, List.drop_append, List.drop_eq_nil_of_le h1, List.nil_append, List.drop_append_of_le_length (by omega)]
        rw [h7] at h6
        have hne : p.drop (c - pre.length) ≠ [] := by
          intro h0
          have := congrArg List.length h0
          rw [List.length_drop] at this
          simp at this
          omega
        obtain ⟨y, ys, hy⟩ := List.exists_cons_of_ne_nil hne
        rw [hy] at h6
        have : y = 46 := by
          have h8 : (y :: (ys ++ (dotsL ++ joinL (q :: rest)))).take 3 = [46, 46, 46] := h6
          simp at h8
          exact h8.1
        exact hpp (List.mem_of_mem_drop (i := c - pre.length) (by rw [hy, this]; exact .head _))
      subst hc
      have hl3 : pre.length + p.length + (sL dotsL).length = (pre ++ p ++ dotsL).length := by rw [sL_len]; simp only [List.length_append]
      rw [e] at h4 hn
      rw [hl3] at h4
      have ih := parts_is (q :: rest) (pre ++ p ++ dotsL) r f (by simp) (fun x hx => hp x (.tail _ hx)) h4 hn
      refine ⟨?_, by simp⟩
      show PySem.Builtin.Str.strSub (sL (pre ++ joinL (p :: q :: rest))) pre.length (pre.length + p.length) :: partsFrom (sL (pre ++ joinL (p :: q :: rest))) 3 (pre.length + p.length + 3) r = sL p :: (q :: rest).map sL
      have hl4 : pre.length + p.length + 3 = (pre ++ p ++ dotsL).length := by simp only [List.length_append]; rfl
      rw [hl4, e, ih.1]
      refine congrArg (· :: _) (Str.ext' (Array.toList_inj.mp ?_))
      rw [strSub_toList]
      show (((pre ++ p ++ dotsL) ++ joinL (q :: rest)).drop pre.length).take (pre.length + p.length - pre.length) = p
      rw [show (pre ++ p ++ dotsL) ++ joinL (q :: rest) = pre ++ (p ++ (dotsL ++ joinL (q :: rest))) by simp, List.drop_left' rfl, show pre.length + p.length - pre.length = p.length by omega, List.take_left' rfl]
theorem kind_dots (x : Str) : ¬ PySem.Builtin.Str.strKind x < PySem.Builtin.Str.strKind (sL dotsL) := by
  have : PySem.Builtin.Str.strKind (sL dotsL) = 1 := by decide +kernel
  rw [this]
  unfold PySem.Builtin.Str.strKind
  split
  · omega
  · split <;> omega
theorem split_is {p q : List Nat} {r : List (List Nat)} (hp : ∀ x ∈ p :: q :: r, 46 ∉ x) : Txt.split (sL (joinL (p :: q :: r))) (Str.ofString "...") = (p :: q :: r).map sL := by
  rw [dots_is]
  obtain ⟨f, hG, hn⟩ := PySem.StrLaws.occ_tight (sL (joinL (p :: q :: r))) (sL dotsL) (by show 1 ≤ 3; omega)
  have key := parts_is (p :: q :: r) [] _ f (by simp) hp (by rw [sL_len] at hG; exact hG) (by rw [sL_len] at hn; exact hn)
  unfold Txt.split
  have hl : (joinL (p :: q :: r)).length = p.length + 3 + (joinL (q :: r)).length := by rw [joinL]; simp only [List.length_append]; rfl
  rw [if_neg (by
    simp only [Bool.or_eq_true, decide_eq_true_eq]
    rintro (h | h)
    · rw [sL_len, sL_len] at h
      have h' : (joinL (p :: q :: r)).length < 3 := h
      omega
    · exact kind_dots _ h)]
  rw [if_neg (by
    intro h
    have h0 := List.isEmpty_iff.mp h
    have := key.2.mp h0
    simp at this)]
  rw [PySem.StrLaws.partsBetween_eq]
  exact key.1
theorem contains_iff {x : List Nat} : Txt.contains (sL x) (Str.ofString "...") = true ↔ ∃ i, Occ x dotsL x.length i := by
  rw [dots_is]
  unfold Txt.contains
  rw [PySem.StrLaws.found_iff]
  constructor
  · rintro ⟨i, h1, h2⟩
    exact ⟨i, by have := occ_at.mp (⟨h1, h2⟩ : PySem.StrLaws.At (sL x) (sL dotsL) (sL x).length i); rwa [sL_len] at this⟩
  · rintro ⟨i, h⟩
    have := occ_at.mpr h
    rw [← sL_len x] at this
    exact ⟨i, this.1, this.2⟩
theorem contains_one {p : List Nat} (hp : 46 ∉ p) : Txt.contains (sL p) (Str.ofString "...") = false := by
  cases h : Txt.contains (sL p) (Str.ofString "...") with
  | false => rfl
  | true =>
    obtain ⟨i, h1, h2⟩ := contains_iff.mp h
    exfalso
    have : 46 ∈ p.drop i := List.mem_of_mem_take (i := 3) (by rw [show (3 : Nat) = dotsL.length from rfl, h2]; exact .head _)
    exact hp (List.mem_of_mem_drop this)
theorem contains_more (p q : List Nat) (r : List (List Nat)) : Txt.contains (sL (joinL (p :: q :: r))) (Str.ofString "...") = true := by
  refine contains_iff.mpr ⟨p.length, ?_, ?_⟩
  · rw [joinL]; simp only [List.length_append]; show _ ≤ _ + 3 + _; show _ + 3 ≤ _; omega
  · rw [joinL_cons, List.drop_left' rfl, List.take_left' rfl]
end Mine
end
section
open PySem PySem.W PyProof.Rows PySem.Calls
set_option maxRecDepth 100000
namespace Mine
/-! what the filled rows are -/
noncomputable def fillG {α : Type} (f : α) : List (List α) → List Int → List α
  | [p], [] => p
  | [p, q], [k] => p ++ List.replicate k.toNat f ++ q
  | [p, q, r], [k, l] => p ++ List.replicate k.toNat f ++ q ++ List.replicate l.toNat f ++ r
  | _, _ => []
theorem fillG_map {α β : Type} (g : α → β) (f : α) : ∀ (ps : List (List α)) (ks : List Int), (fillG f ps ks).map g = fillG (g f) (ps.map (List.map g)) ks
  | [], ks => by cases ks <;> rfl
  | [p], [] => rfl
  | [p], k :: ks => rfl
  | [p, q], [] => rfl
  | [p, q], [k] => by
    show List.map g (p ++ List.replicate k.toNat f ++ q) = List.map g p ++ List.replicate k.toNat (g f) ++ List.map g q
    simp only [List.map_append, List.map_replicate]
  | [p, q], k :: l :: ks => rfl
  | [p, q, r], [] => rfl
  | [p, q, r], [k] => rfl
  | [p, q, r], [k, l] => by
    show List.map g (p ++ List.replicate k.toNat f ++ q ++ List.replicate l.toNat f ++ r) = List.map g p ++ List.replicate k.toNat (g f) ++ List.map g q ++ List.replicate l.toNat (g f) ++ List.map g r
    simp only [List.map_append, List.map_replicate]
  | [p, q, r], k :: l :: j :: ks => rfl
  | p :: q :: r :: s :: ps, ks => by cases ks <;> rfl
noncomputable def rd (b : Bool) (cs : List (Int × Int)) : List Nat := cs.map (readN b)
noncomputable def readX (b : Bool) (c : Int × Int) : Nat := if c.1 < 16 then readN b c else 35
theorem readX_ok {b : Bool} {c : Int × Int} (h : ColOk c) : readX b c = readN b c := by unfold readX; rw [if_pos h.2.1]
theorem readX_map {b : Bool} {cs : List (Int × Int)} (h : ∀ c ∈ cs, ColOk c) : cs.map (readX b) = rd b cs := List.map_congr_left fun c hc => readX_ok (h c hc)
/-! costs -/
noncomputable def codesL : List Nat := 35 :: ((List.range 16).map (65 + ·) ++ (List.range 16).map (97 + ·))
noncomputable def lowN (x : Nat) : Nat := if 65 ≤ x ∧ x ≤ 80 then x + 32 else x
theorem lower_all : (codesL.all fun x => decide (Txt.lower (sL [x]) = sL [lowN x])) = true := by decide +kernel
theorem lower_at {x : Nat} (h : x ∈ codesL) : Txt.lower (sL [x]) = sL [lowN x] := by
  have := List.all_eq_true.mp lower_all x h
  simpa only [decide_eq_true_eq] using this
theorem cost_codes {x y : Nat} (hx : x ∈ codesL) (hy : y ∈ codesL) : costN x y = if x = y then 0 else if lowN x = lowN y then 1 else 2 := by
  unfold costN cost
  rw [lower_at hx, lower_at hy, sL_beq, sL_beq]
  simp
theorem code_mem {b : Bool} {c : Int × Int} (h : ColOk c) : readN b c ∈ codesL := by
  obtain ⟨h0, h1, _⟩ := h
  have a0 := turnN_lo (b := b) h0 h1
  have a1 := turnN_hi (b := b) h0 h1
  unfold readN codesL
  refine List.mem_cons_of_mem _ (List.mem_append.mpr ?_)
  split
  · exact .inl (List.mem_map.mpr ⟨_, List.mem_range.mpr (by omega), rfl⟩)
  · exact .inr (List.mem_map.mpr ⟨_, List.mem_range.mpr (by omega), rfl⟩)
noncomputable def fillC : Int × Int := (16, 0)
theorem costC_fill {c : Int × Int} (h : ColOk c) : costC c fillC = 2 := by
  have := h.2.1
  unfold costC fillC
  rw [if_neg (by show ¬ (16 : Int) = c.1; omega)]
theorem read_lo {b : Bool} {c : Int × Int} (h : ColOk c) : lowN (readN b c) = 97 + (turnN b c.1).toNat := by
  obtain ⟨h0, h1, _⟩ := h
  have a0 := turnN_lo (b := b) h0 h1
  have a1 := turnN_hi (b := b) h0 h1
  unfold lowN readN
  split <;> split <;> omega
theorem turn_inj {b : Bool} {m n : Int} (h0 : 0 ≤ m) (h1 : m < 16) (h2 : 0 ≤ n) (h3 : n < 16) (e : (turnN b m).toNat = (turnN b n).toNat) : m = n := by
  unfold turnN at e
  split at e <;> omega
theorem read_inj {b : Bool} {c d : Int × Int} (hc : ColOk c) (hd : ColOk d) (e : readN b c = readN b d) : c = d := by
  have e1 := congrArg lowN e
  rw [read_lo hc, read_lo hd] at e1
  obtain ⟨c1, c2⟩ := c
  obtain ⟨d1, d2⟩ := d
  obtain ⟨a0, a1, a2⟩ := hc
  obtain ⟨b0, b1, b2⟩ := hd
  dsimp only at a0 a1 a2 b0 b1 b2
  have e2 : c1 = d1 := turn_inj a0 a1 b0 b1 (by simpa using e1)
  subst e2
  unfold readN at e
  dsimp only at e
  cases b <;> rcases a2 with rfl | rfl <;> rcases b2 with rfl | rfl <;> first | rfl | (simp at e)
theorem cost_read {b : Bool} {c d : Int × Int} (hc : ColOk c) (hd : ColOk d ∨ d = fillC) : costN (readX b c) (readX b d) = costC c d := by
  rw [readX_ok hc]
  rcases hd with hd | rfl
  · rw [readX_ok hd, cost_codes (code_mem hc) (code_mem hd), read_lo hc, read_lo hd]
    unfold costC
    by_cases e : c = d
    · subst e; simp
    · rw [if_neg (fun x => e (read_inj hc hd x))]
      by_cases e1 : d.1 = c.1
      · rw [if_pos e1, e1, if_pos rfl, if_neg (fun e2 => e (Prod.ext e1.symm e2.symm))]
      · rw [if_neg e1, if_neg (fun x => e1 (turn_inj hd.1 hd.2.1 hc.1 hc.2.1 (b := b) (by omega)))]
  · rw [costC_fill hc]
    have h35 : readX b fillC = 35 := rfl
    have hm : 35 ∈ codesL := List.mem_cons_self
    rw [h35, cost_codes (code_mem hc) hm, read_lo hc, if_neg, if_neg]
    · unfold lowN; split <;> omega
    · intro e
      have := read_lo (b := b) hc
      rw [e] at this
      unfold lowN at this
      split at this <;> omega
/-! fillers -/
section
variable {α : Type} {c : α → α → Int} (fl : α → Bool)
noncomputable def cnt (ys : List α) : Int := ((ys.filter fl).length : Int)
theorem cnt_cons (y : α) (ys : List α) : cnt fl (y :: ys) = (if fl y then 1 else 0) + cnt fl ys := by
  unfold cnt
  rw [List.filter_cons]
  split
  · rw [List.length_cons]; push_cast; omega
  · omega
theorem cnt_le (ys : List α) : 0 ≤ cnt fl ys ∧ cnt fl ys ≤ ys.length := by
  unfold cnt
  have := List.length_filter_le fl ys
  omega
theorem fill_ar {m n : Nat} {K e A B C k : Int} (h1 : 2 * (e + K) + 2 * max 0 ((m : Int) - ((n + 1 : Nat) : Int)) ≤ A) (h2 : 2 * K + 2 * max 0 (((m + 1 : Nat) : Int) - (n : Int)) ≤ B) (h3 : 2 * K + 2 * max 0 ((m : Int) - (n : Int)) ≤ C)
    (he : (e = 1 ∧ k = 2) ∨ (e = 0 ∧ 0 ≤ k)) : 2 * (e + K) + 2 * max 0 (((m + 1 : Nat) : Int) - ((n + 1 : Nat) : Int)) ≤ min (min A B + 2) (C + k) := by
  have e1 : ((m + 1 : Nat) : Int) - ((n + 1 : Nat) : Int) = (m : Int) - (n : Int) := by omega
  have e2 : max 0 ((m : Int) - (n : Int)) ≤ max 0 ((m : Int) - ((n + 1 : Nat) : Int)) + 1 := Int.max_le.mpr ⟨Int.le_trans (Int.le_max_left _ _) (Int.le_add_of_nonneg_right (by decide)), by have := Int.le_max_right 0 ((m : Int) - ((n + 1 : Nat) : Int)); omega⟩
  have e3 : max 0 ((m : Int) - (n : Int)) ≤ max 0 (((m + 1 : Nat) : Int) - (n : Int)) := Int.max_le.mpr ⟨Int.le_max_left _ _, Int.le_trans (by omega) (Int.le_max_right _ _)⟩
  rw [e1]
  generalize max 0 ((m : Int) - (n : Int)) = M at *
  generalize max 0 ((m : Int) - ((n + 1 : Nat) : Int)) = M1 at *
  generalize max 0 (((m + 1 : Nat) : Int) - (n : Int)) = M2 at *
  clear e1
  refine Int.le_min.mpr ⟨?_, ?_⟩
  · exact Int.le_add_of_sub_right_le (Int.le_min.mpr ⟨by omega, by omega⟩)
  · omega
theorem str_ar {m n : Nat} {K e A B C k : Int} (h : m = n) (h1 : 2 * (e + K) + 2 * max 0 ((m : Int) - ((n + 1 : Nat) : Int)) ≤ A) (h2 : 2 * K + 2 * max 0 (((m + 1 : Nat) : Int) - (n : Int)) ≤ B) (h3 : 2 * K + 2 * max 0 ((m : Int) - (n : Int)) ≤ C)
    (he : (e = 1 ∧ k = 2) ∨ (e = 0 ∧ 0 ≤ k)) (hm : min (min A B + 2) (C + k) ≤ 2 * (e + K)) : (e = 1 ∨ k = 0) ∧ C ≤ 2 * K := by
  subst h
  have a1 : 0 ≤ max 0 ((m : Int) - ((m + 1 : Nat) : Int)) := Int.le_max_left _ _
  have a2 : (1 : Int) ≤ max 0 (((m + 1 : Nat) : Int) - (m : Int)) := Int.le_trans (by omega) (Int.le_max_right _ _)
  have a3 : 0 ≤ max 0 ((m : Int) - (m : Int)) := Int.le_max_left _ _
  generalize max 0 ((m : Int) - (m : Int)) = M at *
  generalize max 0 ((m : Int) - ((m + 1 : Nat) : Int)) = M1 at *
  generalize max 0 (((m + 1 : Nat) : Int) - (m : Int)) = M2 at *
  have b : 2 * (e + K) + 1 ≤ min A B + 2 := by
    exact Int.le_add_of_sub_right_le (Int.le_min.mpr ⟨by omega, by omega⟩)
  have c : C + k ≤ 2 * (e + K) := by
    generalize min A B = N at *
    rcases Int.le_total (N + 2) (C + k) with q | q
    · rw [Int.min_eq_left q] at hm; omega
    · rw [Int.min_eq_right q] at hm; exact hm
  clear hm b h1 h2
  omega
theorem ed_fill (h0 : ∀ x y, 0 ≤ c x y) : ∀ (n : Nat) (xs ys : List α), (∀ x ∈ xs, ∀ y ∈ ys, fl y = true → c x y = 2) → xs.length + ys.length ≤ n → 2 * cnt fl ys + 2 * max 0 ((xs.length : Int) - ys.length) ≤ ed c xs ys := by
  intro n
  induction n with
  | zero =>
    intro xs ys _ h
    have h1 : xs = [] := List.length_eq_zero_iff.mp (by omega)
    have h2 : ys = [] := List.length_eq_zero_iff.mp (by omega)
    subst h1 h2
    simp [ed_nil, cnt]
  | succ n ih =>
    intro xs ys hf h
    cases xs with
    | nil =>
      have := cnt_le fl ys
      rw [ed_nil]
      simp only [List.length_nil]
      omega
    | cons x xs =>
      cases ys with
      | nil =>
        rw [ed_nil_right]
        simp only [List.length_nil, cnt, List.filter_nil]
        omega
      | cons y ys =>
        simp only [List.length_cons] at h
        have i1 := ih xs (y :: ys) (fun a ha b hb => hf a (.tail _ ha) b hb) (by simp only [List.length_cons]; omega)
        have i2 := ih (x :: xs) ys (fun a ha b hb => hf a ha b (.tail _ hb)) (by simp only [List.length_cons]; omega)
        have i3 := ih xs ys (fun a ha b hb => hf a (.tail _ ha) b (.tail _ hb)) (by omega)
        have hc := hf x (.head _) y (.head _)
        have := h0 x y
        rw [ed_cons]
        rw [cnt_cons] at i1 ⊢
        exact fill_ar i1 i2 i3 (by
          by_cases hy : fl y = true
          · exact .inl ⟨if_pos hy, hc hy⟩
          · exact .inr ⟨if_neg hy, this⟩)
theorem ed_straight (h0 : ∀ x y, 0 ≤ c x y) : ∀ (xs ys : List α), (∀ x ∈ xs, ∀ y ∈ ys, fl y = true → c x y = 2) → xs.length = ys.length → ed c xs ys ≤ 2 * cnt fl ys → ∀ p ∈ xs.zip ys, fl p.2 = true ∨ c p.1 p.2 = 0
  | [], _, _, _, _ => by simp
  | x :: xs, [], _, h, _ => by simp at h
  | x :: xs, y :: ys, hf, h, he => by
    simp only [List.length_cons] at h
    have a1 := ed_fill fl h0 _ xs (y :: ys) (fun a ha b hb => hf a (.tail _ ha) b hb) (Nat.le_refl _)
    have a2 := ed_fill fl h0 _ (x :: xs) ys (fun a ha b hb => hf a ha b (.tail _ hb)) (Nat.le_refl _)
    have a3 := ed_fill fl h0 _ xs ys (fun a ha b hb => hf a (.tail _ ha) b (.tail _ hb)) (Nat.le_refl _)
    have hc := hf x (.head _) y (.head _)
    have := h0 x y
    rw [ed_cons] at he
    rw [cnt_cons] at a1 he
    have key : (fl y = true ∨ c x y = 0) ∧ ed c xs ys ≤ 2 * cnt fl ys := by
      have r := str_ar (by omega) a1 a2 a3 (by
        by_cases hy : fl y = true
        · exact .inl ⟨if_pos hy, hc hy⟩
        · exact .inr ⟨if_neg hy, this⟩) he
      refine ⟨r.1.imp (fun e => ?_) id, r.2⟩
      by_cases hy : fl y = true
      · exact hy
      · rw [if_neg hy] at e; cases e
    have ih := ed_straight h0 xs ys (fun a ha b hb => hf a (.tail _ ha) b (.tail _ hb)) (by omega) key.2
    intro p hp
    rw [List.zip_cons_cons] at hp
    rcases List.mem_cons.mp hp with rfl | hp
    · exact key.1
    · exact ih p hp
theorem ed_diag_fill (h2 : ∀ x y, c x y ≤ 2) : ∀ (xs ys : List α), xs.length = ys.length → (∀ p ∈ xs.zip ys, fl p.2 = true ∨ c p.1 p.2 = 0) → ed c xs ys ≤ 2 * cnt fl ys
  | [], [], _, _ => by simp [ed_nil, cnt]
  | x :: xs, y :: ys, h, hp => by
    simp only [List.length_cons] at h
    have i := ed_diag_fill h2 xs ys (by omega) (fun p hp' => hp p (by rw [List.zip_cons_cons]; exact .tail _ hp'))
    have := h2 x y
    have k := hp (x, y) (by rw [List.zip_cons_cons]; exact .head _)
    rw [ed_cons, cnt_cons]
    split
    · omega
    · rename_i hy
      rcases k with k | k
      · exact absurd k hy
      · dsimp only at k; omega
end
end Mine
end
section
open PySem PySem.W PyProof.Rows PySem.Calls
set_option maxRecDepth 100000
namespace Mine
noncomputable abbrev Col := Int × Int
noncomputable def Agree : List Col → List Col → Prop
  | [], [] => True
  | y :: ys, x :: xs => (16 ≤ y.1 ∨ y = x) ∧ Agree ys xs
  | _, _ => False
theorem agree_len : ∀ {ys xs : List Col}, Agree ys xs → ys.length = xs.length
  | [], [], _ => rfl
  | y :: ys, x :: xs, h => by rw [List.length_cons, List.length_cons, agree_len h.2]
  | [], _ :: _, h => h.elim
  | _ :: _, [], h => h.elim
theorem agree_app : ∀ {a b xs : List Col}, Agree (a ++ b) xs ↔ ∃ u v, xs = u ++ v ∧ Agree a u ∧ Agree b v
  | [], b, xs => by
    constructor
    · intro h; exact ⟨[], xs, rfl, trivial, h⟩
    · rintro ⟨u, v, rfl, h1, h2⟩
      cases u with
      | nil => exact h2
      | cons _ _ => exact h1.elim
  | y :: a, b, [] => by
    constructor
    · intro h; exact h.elim
    · rintro ⟨u, v, e, h1, h2⟩
      cases u with
      | nil => exact h1.elim
      | cons _ _ => cases e
  | y :: a, b, x :: xs => by
    constructor
    · rintro ⟨h1, h2⟩
      obtain ⟨u, v, rfl, h3, h4⟩ := agree_app.mp h2
      exact ⟨x :: u, v, rfl, ⟨h1, h3⟩, h4⟩
    · rintro ⟨u, v, e, h1, h2⟩
      cases u with
      | nil => exact h1.elim
      | cons x' u =>
        cases e
        exact ⟨h1.1, agree_app.mpr ⟨u, v, rfl, h1.2, h2⟩⟩
theorem agree_ok : ∀ {p u : List Col}, (∀ c ∈ p, ColOk c) → (Agree p u ↔ p = u)
  | [], [], _ => ⟨fun _ => rfl, fun _ => trivial⟩
  | [], _ :: _, _ => ⟨fun h => h.elim, fun h => by cases h⟩
  | _ :: _, [], _ => ⟨fun h => h.elim, fun h => by cases h⟩
  | y :: p, x :: u, hp => by
    have ih := agree_ok (p := p) (u := u) fun c hc => hp c (.tail _ hc)
    have hy := (hp y (.head _)).2.1
    constructor
    · rintro ⟨h1, h2⟩
      rcases h1 with h1 | h1
      · omega
      · rw [h1, ih.mp h2]
    · intro e
      cases e
      exact ⟨.inr rfl, ih.mpr rfl⟩
theorem agree_rep : ∀ {k : Nat} {u : List Col}, Agree (List.replicate k fillC) u ↔ u.length = k
  | 0, [] => ⟨fun _ => rfl, fun _ => trivial⟩
  | 0, _ :: _ => ⟨fun h => h.elim, fun h => by cases h⟩
  | k + 1, [] => ⟨fun h => h.elim, fun h => by cases h⟩
  | k + 1, x :: u => by
    rw [List.replicate_succ]
    have ih := agree_rep (k := k) (u := u)
    constructor
    · rintro ⟨_, h⟩; rw [List.length_cons, ih.mp h]
    · intro h; exact ⟨.inl (by decide), ih.mpr (by simpa using h)⟩
theorem agree_rev : ∀ {ys xs : List Col}, Agree ys xs → Agree ys.reverse xs.reverse
  | [], [], _ => trivial
  | y :: ys, x :: xs, h => by
    rw [List.reverse_cons, List.reverse_cons]
    exact agree_app.mpr ⟨_, _, rfl, agree_rev h.2, h.1, trivial⟩
  | [], _ :: _, h => h.elim
  | _ :: _, [], h => h.elim
noncomputable def flC (c : Col) : Bool := decide (16 ≤ c.1)
theorem costC_zero {c d : Col} : costC c d = 0 ↔ d = c := by
  unfold costC
  constructor
  · intro h
    split at h
    · rename_i e1
      split at h
      · rename_i e2; exact Prod.ext e1 e2
      · cases h
    · cases h
  · rintro rfl; simp
theorem agree_zip : ∀ {ys xs : List Col}, Agree ys xs ↔ xs.length = ys.length ∧ ∀ p ∈ xs.zip ys, flC p.2 = true ∨ costC p.1 p.2 = 0
  | [], [] => by simp [Agree]
  | [], _ :: _ => by simp [Agree]
  | _ :: _, [] => by simp [Agree]
  | y :: ys, x :: xs => by
    have ih := agree_zip (ys := ys) (xs := xs)
    constructor
    · rintro ⟨h1, h2⟩
      obtain ⟨a, b⟩ := ih.mp h2
      refine ⟨by simp [a], fun p hp => ?_⟩
      rw [List.zip_cons_cons] at hp
      rcases List.mem_cons.mp hp with rfl | hp
      · rcases h1 with h1 | h1
        · exact .inl (by simpa [flC] using h1)
        · exact .inr (costC_zero.mpr h1)
      · exact b p hp
    · rintro ⟨a, b⟩
      refine ⟨?_, ih.mpr ⟨by simpa using a, fun p hp => b p (by rw [List.zip_cons_cons]; exact .tail _ hp)⟩⟩
      rcases b (x, y) (by rw [List.zip_cons_cons]; exact .head _) with h | h
      · exact .inl (by simpa [flC] using h)
      · exact .inr (costC_zero.mp h)
noncomputable def badAt (cs row : List Col) (i : Nat) : Bool := decide ((row.getD i (0, 0)).1 < 16) && !decide (row.getD i (0, 0) = cs.getD i (0, 0))
noncomputable def strB (cs row : List Col) : Bool := (List.range cs.length).all fun i => !badAt cs row i
theorem agree_at : ∀ {ys xs : List Col}, ys.length = xs.length → (Agree ys xs ↔ ∀ i, i < xs.length → badAt xs ys i = false)
  | [], [], _ => ⟨fun _ i hi => by simp at hi, fun _ => trivial⟩
  | [], _ :: _, h => by cases h
  | _ :: _, [], h => by cases h
  | y :: ys, x :: xs, h => by
    have ih := agree_at (ys := ys) (xs := xs) (by simpa using h)
    have e0 : badAt (x :: xs) (y :: ys) 0 = false ↔ (16 ≤ y.1 ∨ y = x) := by
      unfold badAt
      simp only [List.getD_cons_zero, Bool.and_eq_false_iff, decide_eq_false_iff_not, Bool.not_eq_false', decide_eq_true_eq]
      constructor
      · rintro (h | h)
        · exact .inl (by omega)
        · exact .inr h
      · rintro (h | h)
        · exact .inl (by omega)
        · exact .inr h
    have es : ∀ i, badAt (x :: xs) (y :: ys) (i + 1) = badAt xs ys i := fun i => rfl
    constructor
    · rintro ⟨h1, h2⟩ i hi
      cases i with
      | zero => exact e0.mpr h1
      | succ i => rw [es]; exact ih.mp h2 i (by simpa using hi)
    · intro hh
      refine ⟨e0.mp (hh 0 (by simp)), ih.mpr fun i hi => ?_⟩
      rw [← es]; exact hh (i + 1) (by simpa using hi)
theorem strB_iff {cs row : List Col} (h : row.length = cs.length) : strB cs row = true ↔ Agree row cs := by
  rw [agree_at h]
  unfold strB
  rw [List.all_eq_true]
  constructor
  · intro hh i hi
    simpa using hh i (List.mem_range.mpr hi)
  · intro hh i hi
    simpa using hh i (List.mem_range.mp hi)
/-! pieces and shares -/
noncomputable def sumL (ps : List (List Col)) : Int := ((ps.map List.length).sum : Nat)
noncomputable def Okp (ps : List (List Col)) : Prop := 1 ≤ ps.length ∧ ps.length ≤ 3 ∧ ∀ p ∈ ps, ∀ c ∈ p, ColOk c
theorem cnt_app {α : Type} (fl : α → Bool) (a b : List α) : cnt fl (a ++ b) = cnt fl a + cnt fl b := by
  unfold cnt; rw [List.filter_append, List.length_append]; push_cast; rfl
theorem cnt_ok {p : List Col} (h : ∀ c ∈ p, ColOk c) : cnt flC p = 0 := by
  unfold cnt
  rw [List.filter_eq_nil_iff.mpr]
  · rfl
  · intro c hc
    have := (h c hc).2.1
    simp [flC]; omega
theorem cnt_rep (k : Nat) : cnt flC (List.replicate k fillC) = k := by
  unfold cnt
  rw [List.filter_eq_self.mpr]
  · simp
  · intro c hc
    rw [List.eq_of_mem_replicate hc]; rfl
theorem cnt_rev {α : Type} (fl : α → Bool) (a : List α) : cnt fl a.reverse = cnt fl a := by unfold cnt; rw [List.filter_reverse, List.length_reverse]
theorem shape {cs : List Col} {ps : List (List Col)} {ks : List Int} (ho : Okp ps) (hk : ks ∈ sharesL ((cs.length : Int) - sumL ps) (ps.length - 1)) :
    (∃ p, ps = [p] ∧ ks = [] ∧ cs.length = p.length) ∨ (∃ (p q : List Col) (k : Nat), ps = [p, q] ∧ ks = [(k : Int)] ∧ cs.length = p.length + k + q.length) ∨
    (∃ (p q r : List Col) (k l : Nat), ps = [p, q, r] ∧ ks = [(k : Int), (l : Int)] ∧ cs.length = p.length + k + q.length + l + r.length) := by
  obtain ⟨h1, h3, _⟩ := ho
  match ps, h1, h3 with
  | [p], _, _ =>
    refine .inl ⟨p, rfl, ?_⟩
    simp only [sharesL, List.length_cons, List.length_nil, Nat.zero_add, Nat.sub_self] at hk
    split at hk
    · rename_i e
      simp [sumL] at e hk
      exact ⟨hk, by omega⟩
    · cases hk
  | [p, q], _, _ =>
    refine .inr (.inl ⟨p, q, ((cs.length : Int) - sumL [p, q]).toNat, rfl, ?_⟩)
    simp only [sharesL, List.length_cons, List.length_nil, Nat.zero_add, Nat.add_sub_cancel] at hk
    split at hk
    · rename_i e
      simp [sumL] at e hk ⊢
      exact ⟨by rw [hk]; congr 1; omega, by omega⟩
    · cases hk
  | [p, q, r], _, _ =>
    obtain ⟨i, hi, rfl⟩ := List.mem_map.mp (show ks ∈ (List.range (((cs.length : Int) - sumL [p, q, r]) + 1).toNat).map fun (i : Nat) => [(i : Int), ((cs.length : Int) - sumL [p, q, r]) - (i : Int)] from hk)
    have hi := List.mem_range.mp hi
    refine .inr (.inr ⟨p, q, r, i, (((cs.length : Int) - sumL [p, q, r]) - (i : Int)).toNat, rfl, ?_⟩)
    simp [sumL] at hi ⊢
    exact ⟨by omega, by omega⟩
theorem row_facts {cs : List Col} {ps : List (List Col)} {ks : List Int} (ho : Okp ps) (hk : ks ∈ sharesL ((cs.length : Int) - sumL ps) (ps.length - 1)) :
    (fillG fillC ps ks).length = cs.length ∧ (∀ c ∈ fillG fillC ps ks, ColOk c ∨ c = fillC) ∧ cnt flC (fillG fillC ps ks) = (cs.length : Int) - sumL ps := by
  have ho' := ho.2.2
  rcases shape ho hk with ⟨p, rfl, rfl, hl⟩ | ⟨p, q, k, rfl, rfl, hl⟩ | ⟨p, q, r, k, l, rfl, rfl, hl⟩
  · refine ⟨hl.symm, fun c hc => .inl (ho' p (by simp) c hc), ?_⟩
    rw [show fillG fillC [p] [] = p from rfl, cnt_ok (ho' p (by simp))]
    simp [sumL]; omega
  · rw [show fillG fillC [p, q] [(k : Int)] = p ++ List.replicate k fillC ++ q from rfl]
    refine ⟨by simp; omega, fun c hc => ?_, ?_⟩
    · simp only [List.mem_append] at hc
      rcases hc with (hc | hc) | hc
      · exact .inl (ho' p (by simp) c hc)
      · exact .inr (List.eq_of_mem_replicate hc)
      · exact .inl (ho' q (by simp) c hc)
    · rw [cnt_app, cnt_app, cnt_ok (ho' p (by simp)), cnt_ok (ho' q (by simp)), cnt_rep]
      simp [sumL]; omega
  · rw [show fillG fillC [p, q, r] [(k : Int), (l : Int)] = p ++ List.replicate k fillC ++ q ++ List.replicate l fillC ++ r from rfl]
    refine ⟨by simp; omega, fun c hc => ?_, ?_⟩
    · simp only [List.mem_append] at hc
      rcases hc with (((hc | hc) | hc) | hc) | hc
      · exact .inl (ho' p (by simp) c hc)
      · exact .inr (List.eq_of_mem_replicate hc)
      · exact .inl (ho' q (by simp) c hc)
      · exact .inr (List.eq_of_mem_replicate hc)
      · exact .inl (ho' r (by simp) c hc)
    · rw [cnt_app, cnt_app, cnt_app, cnt_app, cnt_ok (ho' p (by simp)), cnt_ok (ho' q (by simp)), cnt_ok (ho' r (by simp)), cnt_rep, cnt_rep]
      simp [sumL]; omega
theorem fill_read {b : Bool} {ps : List (List Col)} {ks : List Int} (ho : ∀ p ∈ ps, ∀ c ∈ p, ColOk c) : fillG 35 (ps.map (rd b)) ks = (fillG fillC ps ks).map (readX b) := by
  rw [fillG_map]
  show _ = fillG 35 _ ks
  congr 1
  exact List.map_congr_left fun p hp => (readX_map (ho p hp)).symm
theorem lev_is {b : Bool} {cs : List Col} {ps : List (List Col)} {ks : List Int} (hc : ∀ c ∈ cs, ColOk c) (ho : Okp ps) (hk : ks ∈ sharesL ((cs.length : Int) - sumL ps) (ps.length - 1)) :
    levD (rd b cs) (fillG 35 (ps.map (rd b)) ks) = ed costC cs.reverse (fillG fillC ps ks).reverse := by
  obtain ⟨h1, h2, _⟩ := row_facts ho hk
  rw [fill_read ho.2.2, ← readX_map hc]
  unfold levD
  rw [← List.map_reverse, ← List.map_reverse]
  exact ed_map (readX b) _ _ _ (fun x hx y hy => cost_read (hc x (List.mem_reverse.mp hx)) (h2 y (List.mem_reverse.mp hy))) (Nat.le_refl _)
theorem costC_lo (c d : Col) : 0 ≤ costC c d := by unfold costC; split; split <;> decide; decide
theorem costC_hi (c d : Col) : costC c d ≤ 2 := by unfold costC; split; split <;> decide; decide
theorem law_a {cs : List Col} {ps : List (List Col)} {ks : List Int} {v : Int} (hc : ∀ c ∈ cs, ColOk c) (hn : cs.length ≤ 10) (ho : Okp ps) (hk : ks ∈ sharesL ((cs.length : Int) - sumL ps) (ps.length - 1))
    (hv : LevOk (rd false cs) (fillG 35 (ps.map (rd false)) ks) 40 v) : v = ed costC cs.reverse (fillG fillC ps ks).reverse := by
  obtain ⟨h1, h2, _⟩ := row_facts ho hk
  unfold LevOk at hv
  rw [lev_is hc ho hk] at hv
  have := ed_diag (c := costC) costC_hi cs.reverse (fillG fillC ps ks).reverse (by simp [h1])
  rw [List.length_reverse] at this
  rcases hv with hv | hv
  · exact hv
  · omega
theorem law_b {cs : List Col} {ps : List (List Col)} {ks : List Int} {v : Int} (hc : ∀ c ∈ cs, ColOk c) (ho : Okp ps) (hk : ks ∈ sharesL ((cs.length : Int) - sumL ps) (ps.length - 1))
    (hv : LevOk (rd true cs) (fillG 35 (ps.map (rd true)) ks) (2 * ((cs.length : Int) - sumL ps)) v) :
    2 * ((cs.length : Int) - sumL ps) ≤ v ∧ (v = 2 * ((cs.length : Int) - sumL ps) ↔ strB cs (fillG fillC ps ks) = true) := by
  obtain ⟨h1, h2, h3⟩ := row_facts ho hk
  unfold LevOk at hv
  rw [lev_is hc ho hk] at hv
  have hf : ∀ x ∈ cs.reverse, ∀ y ∈ (fillG fillC ps ks).reverse, flC y = true → costC x y = 2 := by
    intro x hx y hy hfl
    have hx := hc x (List.mem_reverse.mp hx)
    rcases h2 y (List.mem_reverse.mp hy) with h | rfl
    · have := h.2.1
      simp [flC] at hfl
      omega
    · exact costC_fill hx
  have lo := ed_fill flC costC_lo _ cs.reverse (fillG fillC ps ks).reverse hf (Nat.le_refl _)
  rw [cnt_rev, h3] at lo
  have st := strB_iff h1
  have iff : ed costC cs.reverse (fillG fillC ps ks).reverse ≤ 2 * ((cs.length : Int) - sumL ps) ↔ strB cs (fillG fillC ps ks) = true := by
    rw [st]
    constructor
    · intro h
      have := ed_straight flC costC_lo cs.reverse (fillG fillC ps ks).reverse hf (by simp [h1]) (by rw [cnt_rev, h3]; exact h)
      have ag := agree_rev (agree_zip.mpr ⟨by simp [h1], this⟩)
      rwa [List.reverse_reverse, List.reverse_reverse] at ag
    · intro ag
      have := ed_diag_fill flC costC_hi cs.reverse (fillG fillC ps ks).reverse (by simp [h1]) (agree_zip.mp (agree_rev ag)).2
      rwa [cnt_rev, h3] at this
  rw [← iff]
  rcases hv with hv | hv
  · omega
  · omega
/-! the ellipsis -/
noncomputable def MatchL : List (List Nat) → List Nat → Prop
  | [p], g => p = g
  | [p, r], g => M2 p r g
  | [p, q, r], g => M3 p q r g
  | _, _ => False
theorem rd_inj {b : Bool} : ∀ {x y : List Col}, (∀ c ∈ x, ColOk c) → (∀ c ∈ y, ColOk c) → rd b x = rd b y → x = y
  | [], [], _, _, _ => rfl
  | [], _ :: _, _, _, h => by cases h
  | _ :: _, [], _, _, h => by cases h
  | a :: x, c :: y, hx, hy, h => by
    unfold rd at h
    rw [List.map_cons, List.map_cons, List.cons.injEq] at h
    rw [read_inj (hx a (.head _)) (hy c (.head _)) h.1, rd_inj (fun c hc => hx c (.tail _ hc)) (fun c hc => hy c (.tail _ hc)) h.2]
theorem rd_app {b : Bool} (x y : List Col) : rd b (x ++ y) = rd b x ++ rd b y := List.map_append
theorem rd_split {b : Bool} {cs p : List Col} {z : List Nat} (hc : ∀ c ∈ cs, ColOk c) (hp : ∀ c ∈ p, ColOk c) (h : rd b cs = rd b p ++ z) : ∃ t, cs = p ++ t ∧ rd b t = z := by
  obtain ⟨u, v, rfl, h1, h2⟩ := List.map_eq_append_iff.mp h
  exact ⟨v, by rw [rd_inj (b := b) (fun c hc' => hc c (List.mem_append_left _ hc')) hp h1], h2⟩
theorem rd_cut {b : Bool} {cs : List Col} {x z : List Nat} (h : rd b cs = x ++ z) : ∃ u t, cs = u ++ t ∧ rd b u = x ∧ rd b t = z := List.map_eq_append_iff.mp h
theorem M2_rd {b : Bool} {p r cs : List Col} (hc : ∀ c ∈ cs, ColOk c) (hp : ∀ c ∈ p, ColOk c) (hr : ∀ c ∈ r, ColOk c) : M2 (rd b p) (rd b r) (rd b cs) ↔ ∃ x, cs = p ++ x ++ r := by
  constructor
  · rintro ⟨x, h⟩
    rw [List.append_assoc] at h
    obtain ⟨t, rfl, h1⟩ := rd_split hc hp h
    obtain ⟨u, v, rfl, h2, h3⟩ := rd_cut h1
    have := rd_inj (b := b) (x := v) (y := r) (fun c hc' => hc c (by simp [hc'])) hr h3
    subst this
    exact ⟨u, by simp⟩
  · rintro ⟨x, rfl⟩
    exact ⟨rd b x, by simp only [rd_app]⟩
theorem M3_rd {b : Bool} {p q r cs : List Col} (hc : ∀ c ∈ cs, ColOk c) (hp : ∀ c ∈ p, ColOk c) (hq : ∀ c ∈ q, ColOk c) (hr : ∀ c ∈ r, ColOk c) : M3 (rd b p) (rd b q) (rd b r) (rd b cs) ↔ ∃ x y, cs = p ++ x ++ q ++ y ++ r := by
  constructor
  · rintro ⟨x, y, h⟩
    simp only [List.append_assoc] at h
    obtain ⟨t, rfl, h1⟩ := rd_split hc hp h
    obtain ⟨u, v, rfl, h2, h3⟩ := rd_cut h1
    obtain ⟨t, rfl, h4⟩ := rd_split (fun c hc' => hc c (by simp [hc'])) hq h3
    obtain ⟨u', v', rfl, h5, h6⟩ := rd_cut h4
    have := rd_inj (b := b) (x := v') (y := r) (fun c hc' => hc c (by simp [hc'])) hr h6
    subst this
    exact ⟨u, u', by simp⟩
  · rintro ⟨x, y, rfl⟩
    exact ⟨rd b x, rd b y, by simp only [rd_app]⟩
theorem law_c {b : Bool} {cs : List Col} {ps : List (List Col)} (hc : ∀ c ∈ cs, ColOk c) (ho : Okp ps) :
    MatchL (ps.map (rd b)) (rd b cs) ↔ ∃ ks ∈ sharesL ((cs.length : Int) - sumL ps) (ps.length - 1), strB cs (fillG fillC ps ks) = true := by
  have key : (∃ ks ∈ sharesL ((cs.length : Int) - sumL ps) (ps.length - 1), strB cs (fillG fillC ps ks) = true) ↔ ∃ ks ∈ sharesL ((cs.length : Int) - sumL ps) (ps.length - 1), Agree (fillG fillC ps ks) cs := by
    constructor
    · rintro ⟨ks, h1, h2⟩
      exact ⟨ks, h1, (strB_iff (row_facts ho h1).1).mp h2⟩
    · rintro ⟨ks, h1, h2⟩
      exact ⟨ks, h1, (strB_iff (row_facts ho h1).1).mpr h2⟩
  rw [key]
  have ho' := ho.2.2
  match ps, ho with
  | [p], ho =>
    have hp := ho' p (by simp)
    constructor
    · intro h
      have h : rd b p = rd b cs := h
      have := rd_inj hp hc h
      subst this
      refine ⟨[], ?_, (agree_ok hp).mpr rfl⟩
      simp [sharesL, sumL]
    · rintro ⟨ks, h1, h2⟩
      rcases shape ho h1 with ⟨p', e, rfl, hl⟩ | ⟨p', q, k, e, rfl, hl⟩ | ⟨p', q, r, k, l, e, rfl, hl⟩
      · have h2 : Agree p cs := h2
        show rd b p = rd b cs
        rw [(agree_ok hp).mp h2]
      · cases e
      · cases e
  | [p, q], ho =>
    have hp := ho' p (by simp)
    have hq := ho' q (by simp)
    show M2 (rd b p) (rd b q) (rd b cs) ↔ _
    rw [M2_rd hc hp hq]
    constructor
    · rintro ⟨x, rfl⟩
      refine ⟨[(x.length : Int)], ?_, ?_⟩
      · simp [sharesL, sumL]; omega
      · show Agree (p ++ List.replicate (x.length : Int).toNat fillC ++ q) _
        rw [Int.toNat_natCast]
        exact agree_app.mpr ⟨_, _, rfl, agree_app.mpr ⟨_, _, rfl, (agree_ok hp).mpr rfl, agree_rep.mpr rfl⟩, (agree_ok hq).mpr rfl⟩
    · rintro ⟨ks, h1, h2⟩
      rcases shape ho h1 with ⟨p', e, rfl, hl⟩ | ⟨p', q', k, e, rfl, hl⟩ | ⟨p', q', r, k, l, e, rfl, hl⟩
      · cases e
      · cases e
        have h2 : Agree (p ++ List.replicate (k : Int).toNat fillC ++ q) cs := h2
        obtain ⟨u, v, rfl, h3, h4⟩ := agree_app.mp h2
        obtain ⟨u1, u2, rfl, h5, h6⟩ := agree_app.mp h3
        rw [agree_ok hp] at h5
        rw [agree_ok hq] at h4
        subst h5 h4
        exact ⟨u2, rfl⟩
      · cases e
  | [p, q, r], ho =>
    have hp := ho' p (by simp)
    have hq := ho' q (by simp)
    have hr := ho' r (by simp)
    show M3 (rd b p) (rd b q) (rd b r) (rd b cs) ↔ _
    rw [M3_rd hc hp hq hr]
    constructor
    · rintro ⟨x, y, rfl⟩
      refine ⟨[(x.length : Int), (y.length : Int)], ?_, ?_⟩
      · refine List.mem_map.mpr ⟨x.length, List.mem_range.mpr ?_, ?_⟩
        · simp [sumL]; omega
        · simp [sumL]; omega
      · show Agree (p ++ List.replicate (x.length : Int).toNat fillC ++ q ++ List.replicate (y.length : Int).toNat fillC ++ r) _
        rw [Int.toNat_natCast, Int.toNat_natCast]
        exact agree_app.mpr ⟨_, _, rfl, agree_app.mpr ⟨_, _, rfl, agree_app.mpr ⟨_, _, rfl, agree_app.mpr ⟨_, _, rfl, (agree_ok hp).mpr rfl, agree_rep.mpr rfl⟩, (agree_ok hq).mpr rfl⟩, agree_rep.mpr rfl⟩, (agree_ok hr).mpr rfl⟩
    · rintro ⟨ks, h1, h2⟩
      rcases shape ho h1 with ⟨p', e, rfl, hl⟩ | ⟨p', q', k, e, rfl, hl⟩ | ⟨p', q', r', k, l, e, rfl, hl⟩
      · cases e
      · cases e
      · cases e
        have h2 : Agree (p ++ List.replicate (k : Int).toNat fillC ++ q ++ List.replicate (l : Int).toNat fillC ++ r) cs := h2
        obtain ⟨u, v, rfl, h3, h4⟩ := agree_app.mp h2
        obtain ⟨u1, u2, rfl, h5, h6⟩ := agree_app.mp h3
        obtain ⟨u3, u4, rfl, h7, h8⟩ := agree_app.mp h5
        obtain ⟨u5, u6, rfl, h9, h10⟩ := agree_app.mp h7
        rw [agree_ok hp] at h9
        rw [agree_ok hq] at h8
        rw [agree_ok hr] at h4
        subst h9 h8 h4
        exact ⟨u6, u2, rfl⟩
  | [], ho => exact absurd ho.1 (by simp)
  | _ :: _ :: _ :: _ :: _, ho => exact absurd ho.2.1 (by simp)
end Mine
end
section
open PySem PySem.W PyProof.Rows PySem.Calls
set_option Elab.async false
set_option maxRecDepth 100000
namespace Mine
theorem Tells.weak {k : Nat} {w : World} {f : Addr} {vs : List Value} {pre : Heap → Prop} {post : Heap → Value → Heap → Prop} (hp : ∀ h, pre h → ∃ (pre' : Heap → Prop) (post' : Heap → Value → Heap → Prop), Tells k w f vs pre' post' ∧ pre' h ∧ ∀ r h', post' h r h' → post h r h') : Tells k w f vs pre post := by
  intro dp un gd envs base s Q E O h1 h2 hpre hret
  obtain ⟨pre', post', T, hp', hq⟩ := hp _ hpre
  exact T dp un gd envs base s Q E O h1 h2 hp' fun r h' tk' st po => hret r h' tk' st (hq _ _ po)
noncomputable def RowAt (cs : List (Int × Int)) (v : Value) (h : Heap) : Prop := ∃ all, Has all h ∧ RowIn all cs v
theorem readT_rd (b : Bool) (cs : List (Int × Int)) : readT b cs = sL (rd b cs) := rfl
theorem t_readR (w : World) (v : Value) (cs : List (Int × Int)) (b : Bool) : Tells 4 w 56 [v, .bool b] (fun h => RowAt cs v h ∧ (∀ c ∈ cs, ColOk c) ∧ cs.length ≤ 100) (fun _ r _ => ∃ t, r = .str (sL (rd b cs)) t) := by
  refine Tells.weak fun h hp => ?_
  obtain ⟨⟨all, H, R⟩, ok, n⟩ := hp
  obtain ⟨a, vs, rfl, hl, hi⟩ := R.row H
  exact ⟨_, _, t_read w a vs cs b, ⟨hl, hi, ok, n⟩, fun r h' x => x⟩
theorem t_namedR (w : World) (v : Value) (cs : List (Int × Int)) (b : Bool) : Tells 4 w 61 [v, .bool b] (fun h => RowAt cs v h ∧ (∀ c ∈ cs, ColOk c) ∧ cs.length ≤ 100) (fun _ r _ => ∃ t, r = .str (sL (rd b cs)) t) := by
  refine Tells.weak fun h hp => ?_
  obtain ⟨⟨all, H, R⟩, ok, n⟩ := hp
  obtain ⟨a, vs, rfl, hl, hi⟩ := R.row H
  exact ⟨_, _, t_named w a vs cs b, ⟨hl, hi, ok, n⟩, fun r h' x => x⟩
theorem t_tableR (w : World) (v₁ v₂ : Value) (cs₁ cs₂ : List (Int × Int)) : Tells 2 w 87 [v₁, v₂] (fun h => RowAt cs₁ v₁ h ∧ RowAt cs₂ v₂ h ∧ cs₁.length ≤ 40 ∧ cs₂.length ≤ 40) (fun _ r _ => ∃ t, r = .int (ed costC cs₁.reverse cs₂.reverse) t) := by
  refine Tells.weak fun h hp => ?_
  obtain ⟨⟨all, H, R⟩, ⟨all2, H2, R2⟩, n, n2⟩ := hp
  obtain ⟨a, vs, rfl, hl, hi⟩ := R.row H
  obtain ⟨a2, vs2, rfl, hl2, hi2⟩ := R2.row H2
  exact ⟨_, _, t_table w a a2 vs vs2 cs₁ cs₂, ⟨hl, hi, hl2, hi2, n, n2⟩, fun r h' x => x⟩
theorem t_piecesR (w : World) (v : Value) (cs : List (Int × Int)) (exS : List (Addr × Obj)) (pick : Int) (t : Tok) :
    Tells 2 w 68 [v, .int pick t] (fun h => Has exS h ∧ RowIn exS cs v ∧ (∀ c ∈ cs, ColOk c) ∧ cs.length ≤ 10 ∧ 0 ≤ pick ∧ pick ≤ 1000000) (PostPc exS) := by
  refine Tells.weak fun h hp => ?_
  obtain ⟨H, ⟨vs, L, I⟩, ok, n, p0, p1⟩ := hp
  obtain ⟨a, k, rfl, hm⟩ := id L
  exact ⟨_, _, t_pieces w a vs cs exS pick t, ⟨H, L, I, ok, n, p0, p1⟩, fun r h' x => x⟩
theorem t_shares (w : World) (f g : Int) (n : Nat) (t u : Tok) (hg : g = (n : Int)) : Tells 2 w 73 [.int f t, .int g u] (fun _ => n ≤ 2 ∧ f ≤ 100 ∧ -100 ≤ f) (PostSh f n) := by
  subst hg
  refine Tells.weak fun h hp => ?_
  obtain ⟨hn, h1, h2⟩ := hp
  match n, hn with
  | 0, _ => exact ⟨_, _, t_sh0 w f t u, trivial, fun r h' x => x⟩
  | 1, _ => exact ⟨_, _, t_sh1 w f t u, trivial, fun r h' x => x⟩
  | 2, _ => exact ⟨_, _, t_sh2 w f t u, ⟨h1, h2⟩, fun r h' x => x⟩
theorem has_of {h₀ h : Heap} {L : Addr} {all : List (Addr × Obj)} (N : News h₀ L h all) : Has all h := fun p hp => (N p hp).1
noncomputable def Fits {α : Type} (ps : List (List α)) (ks : List Int) : Prop := 1 ≤ ps.length ∧ ps.length ≤ 3 ∧ ks.length + 1 = ps.length ∧ (∀ k ∈ ks, 0 ≤ k ∧ k ≤ 100) ∧ ∀ p ∈ ps, p.length ≤ 100
noncomputable def PartsIn (ex : List (Addr × Obj)) (ps : List (List (Int × Int))) (v : Value) : Prop := ∃ vs, LIn ex v vs ∧ ItemsAre (RowIn ex) vs ps
noncomputable def TxtsIn (ex : List (Addr × Obj)) (qs : List (List Nat)) (v : Value) : Prop := ∃ vs, LIn ex v vs ∧ ItemsAre (fun q u => ∃ t, u = .str (sL q) t) vs qs
theorem shapes {α β : Type} {ps : List α} {ks : List β} (h1 : 1 ≤ ps.length) (h3 : ps.length ≤ 3) (hk : ks.length + 1 = ps.length) :
    (∃ p, ps = [p] ∧ ks = []) ∨ (∃ p q k, ps = [p, q] ∧ ks = [k]) ∨ ∃ p q r k l, ps = [p, q, r] ∧ ks = [k, l] := by
  cases ps with
  | nil => exact absurd h1 (Nat.not_succ_le_zero 0)
  | cons p ps =>
    have hk := Nat.succ.inj hk
    cases ps with
    | nil => exact .inl ⟨p, rfl, List.length_eq_zero_iff.mp hk⟩
    | cons q ps =>
      cases ks with
      | nil => cases hk
      | cons k ks =>
        have hk := Nat.succ.inj hk
        cases ps with
        | nil => exact .inr (.inl ⟨p, q, k, rfl, by rw [List.length_eq_zero_iff.mp hk]⟩)
        | cons r ps =>
          cases ks with
          | nil => cases hk
          | cons l ks =>
            have hk := Nat.succ.inj hk
            have h0 : ps = [] := List.length_eq_zero_iff.mp (Nat.le_zero.mp (Nat.le_of_succ_le_succ (Nat.le_of_succ_le_succ (Nat.le_of_succ_le_succ h3))))
            subst h0
            exact .inr (.inr ⟨p, q, r, k, l, rfl, by rw [List.length_eq_zero_iff.mp hk]⟩)
theorem fill_fold {α : Type} (f : α) {ps : List (List α)} {ks : List Int} (h : Fits ps ks) : ∃ p qs, ps = p :: qs ∧ qs.length = ks.length ∧ qs.length ≤ 2 ∧ fillG f ps ks = accF f p qs ks qs.length := by
  rcases shapes h.1 h.2.1 h.2.2.1 with ⟨p, rfl, rfl⟩ | ⟨p, q, k, rfl, rfl⟩ | ⟨p, q, r, k, l, rfl, rfl⟩
  · exact ⟨p, _, rfl, rfl, Nat.zero_le 2, rfl⟩
  · exact ⟨p, _, rfl, rfl, Nat.le_succ 1, rfl⟩
  · exact ⟨p, _, rfl, rfl, Nat.le_refl 2, rfl⟩
theorem t_fillT (w : World) (vp vk : Value) (qs : List (List Nat)) (ks : List Int) (t : Tok) : Tells 2 w 80 [vp, vk, .str (Str.ofString "#") t]
    (fun h => ∃ all, Has all h ∧ TxtsIn all qs vp ∧ ShIn all ks vk ∧ Fits qs ks) (fun _ r _ => ∃ t, r = .str (sL (fillG 35 qs ks)) t) := by
  refine Tells.weak fun h hp => ?_
  obtain ⟨all, H, ⟨vs, L1, hi⟩, ⟨us, L2, hi2⟩, f⟩ := hp
  obtain ⟨a, rfl, hl1⟩ := L1.list H
  obtain ⟨b, rfl, hl2⟩ := L2.list H
  obtain ⟨p, qs, rfl, e1, e2, e3⟩ := fill_fold 35 f
  exact ⟨_, _, t_fillTx w a b vs us p qs ks t, ⟨hl1, hl2, hi, hi2, f.2.2.2.2 p (.head _), fun q h => f.2.2.2.2 q (.tail _ h), f.2.2.2.1, e2, e1⟩, fun r h' x => by rw [e3]; exact x⟩
noncomputable def PostFR (all : List (Addr × Obj)) (cs : List (Int × Int)) (h : Heap) (r : Value) (h' : Heap) : Prop := ∃ ex, New h h' ex ∧ RowIn (ex ++ all) cs r
theorem items_rep {ex : List (Addr × Obj)} {c : Int × Int} {v : Value} (h : TIn ex c v) (n : Nat) : ItemsAre (TIn ex) (List.replicate n v) (List.replicate n c) := by
  refine ⟨by simp, fun i x e => ?_⟩
  have hi : i < n := by
    have := (List.getElem?_eq_some_iff.mp e).1
    simpa using this
  rw [List.getElem?_replicate, if_pos hi] at e
  cases e
  exact ⟨c, by rw [List.getElem?_replicate, if_pos hi], h⟩
theorem rows_split {all : List (Addr × Obj)} {h : Heap} (H : Has all h) : ∀ {vs : List Value} {ps : List (List (Int × Int))}, ItemsAre (RowIn all) vs ps → ∃ pvs : List (List Value), ItemsAre (fun q u => ∃ X, u = .ref X ∧ h.IsList X q.toArray) vs pvs ∧ pvs.length = ps.length ∧
    ∀ (i : Nat) (q : List Value), pvs[i]? = some q → ∃ p : List (Int × Int), ps[i]? = some p ∧ ItemsAre (TIn all) q p
  | [], ps, hi => ⟨[], ⟨rfl, fun i v e => by cases e⟩, hi.1, fun i q e => by cases e⟩
  | v :: vs, ps, hi => by
    cases ps with
    | nil => cases hi.1
    | cons p ps =>
      obtain ⟨pvs, h1, h2, h3⟩ := rows_split H (vs := vs) (ps := ps) ⟨Nat.succ.inj hi.1, fun i x e => hi.2 (i + 1) x e⟩
      obtain ⟨_, e, xs, L, hx⟩ := hi.2 0 v rfl
      cases e
      obtain ⟨X, rfl, hl⟩ := L.list H
      refine ⟨xs :: pvs, items_cons ⟨X, rfl, hl⟩ h1, congrArg Nat.succ h2, fun i q e => ?_⟩
      cases i with
      | zero => cases e; exact ⟨p, rfl, hx⟩
      | succ i => exact h3 i q e
theorem acc_items {all : List (Addr × Obj)} {vf : Value} {pv : List Value} {p : List (Int × Int)} {qvs : List (List Value)} {qs : List (List (Int × Int))} {ks : List Int} (hf : TIn all fillC vf) (hp : ItemsAre (TIn all) pv p) (hl : qvs.length = qs.length) (hk : qs.length = ks.length)
    (hq : ∀ (i : Nat) (q : List Value), qvs[i]? = some q → ∃ p : List (Int × Int), qs[i]? = some p ∧ ItemsAre (TIn all) q p) : ∀ i, i ≤ qs.length → ItemsAre (TIn all) (accF vf pv qvs ks i) (accF fillC p qs ks i)
  | 0, _ => by unfold accF; exact hp
  | i + 1, h => by
    have e1 : qvs[i]? = some qvs[i] := List.getElem?_eq_getElem (by omega)
    have e2 : ks[i]? = some ks[i] := List.getElem?_eq_getElem (by omega)
    obtain ⟨q, e3, hi⟩ := hq i _ e1
    rw [accF_succ e1 e2, accF_succ e3 e2]
    exact items_app (items_app (acc_items hf hp hl hk hq i (Nat.le_of_succ_le h)) (items_rep hf _)) hi
theorem t_fillRow (w : World) (vp vk : Value) (c : Addr) (ps : List (List (Int × Int))) (ks : List Int) (all : List (Addr × Obj)) : Tells 2 w 80 [vp, vk, .ref c]
    (fun h => Has all h ∧ PartsIn all ps vp ∧ ShIn all ks vk ∧ Fits ps ks ∧ ∃ vf n, (c, W.listOf #[vf] n) ∈ all ∧ TIn all fillC vf) (PostFR all (fillG fillC ps ks)) := by
  refine Tells.weak fun h hp => ?_
  obtain ⟨H, ⟨vs, L1, hi⟩, ⟨us, L2, hi2⟩, f, vf, n3, hm3, hf⟩ := hp
  obtain ⟨a, rfl, hl1⟩ := L1.list H
  obtain ⟨b, rfl, hl2⟩ := L2.list H
  obtain ⟨p, qs, rfl, e1, e2, e3⟩ := fill_fold fillC f
  obtain ⟨pvs, hv, hlen, hw⟩ := rows_split H hi
  cases pvs with
  | nil => cases hlen
  | cons pv qvs =>
    have hlq : qvs.length = qs.length := Nat.succ.inj hlen
    obtain ⟨_, e, hpv⟩ := hw 0 pv rfl
    cases e
    have hsz : ∀ q ∈ pv :: qvs, q.length ≤ 100 := fun q hq => by
      obtain ⟨i, hi9⟩ := List.mem_iff_getElem?.mp hq
      obtain ⟨d, h1, h2⟩ := hw i q hi9
      rw [h2.1]
      exact f.2.2.2.2 d (List.mem_of_getElem? h1)
    refine ⟨_, _, t_fillRx w a b c vs us vf n3 pv qvs ks, ⟨hl1, hl2, H _ hm3, hv, hi2, hsz pv (.head _), fun q h => hsz q (.tail _ h), f.2.2.2.1, hlq ▸ e2, hlq.trans e1⟩, fun r h' x => ?_⟩
    rw [hlq] at x
    rcases x with ⟨z, hx⟩ | ⟨X, n, rfl, h1, h2⟩
    · have hq0 : qs = [] := List.length_eq_zero_iff.mp z
      subst hq0
      obtain ⟨_, e, hr⟩ := hi.2 0 r hx
      cases e
      refine ⟨[], (fun p hp => nomatch hp), ?_⟩
      rw [e3]
      exact hr
    · refine ⟨[(X, listOf (accF vf pv qvs ks qs.length).toArray n)], fun p hp => by rw [List.mem_singleton.mp hp]; exact ⟨h1, h2⟩, _, ⟨X, n, rfl, .head _⟩, ?_⟩
      rw [e3]
      exact ItemsAre.imp (acc_items hf hpv hlq e1 (fun i q e => hw (i + 1) q e) qs.length (Nat.le_refl _)) fun _ _ y => y.mono fun p hp => .tail _ hp
theorem joinL_len : ∀ qs : List (List Nat), (joinL qs).length ≤ (qs.map List.length).sum + 3 * qs.length
  | [] => Nat.zero_le _
  | [p] => by simp [joinL]
  | p :: q :: r => by
    have := joinL_len (q :: r)
    rw [joinL]
    simp only [List.length_append, List.map_cons, List.sum_cons] at this ⊢
    simp only [List.length_cons, List.length_nil] at this ⊢
    omega
theorem t_ell (w : World) (x : Str) (qs : List (List Nat)) (g : List Nat) (ta tb : Tok) (hx : x = sL (joinL qs)) : Tells 2 w 21 [.str x ta, .str (sL g) tb]
    (fun _ => 1 ≤ qs.length ∧ qs.length ≤ 3 ∧ (∀ q ∈ qs, 46 ∉ q) ∧ (qs.map List.length).sum ≤ 60 ∧ g.length ≤ 100) (fun _ v _ => ∃ b, v = .bool b ∧ (b = true ↔ MatchL qs g)) := by
  subst hx
  refine Tells.weak fun h hp => ?_
  obtain ⟨h1, h3, hd, hn, hg⟩ := hp
  have hjl : (sL (joinL qs)).length ≤ 100 := by have := joinL_len qs; rw [sL_len]; omega
  match qs, h1, h3, hd, hn, hjl with
  | [p], _, _, hd, hn, hjl =>
    simp only [List.map_cons, List.map_nil, List.sum_cons, List.sum_nil] at hn
    exact ⟨_, _, t_ell1 w p g ta tb (contains_one (hd p (by simp))), ⟨hg, by omega⟩, fun r h' x => x⟩
  | [p, q], _, _, hd, hn, hjl =>
    simp only [List.map_cons, List.map_nil, List.sum_cons, List.sum_nil] at hn
    exact ⟨_, _, t_ellG w _ p q g [] ta tb (split_is hd) (contains_more p q []), ⟨hjl, hg, by omega, by omega, Nat.zero_le _, fun _ h => nomatch h⟩, fun r h' ⟨b, e, x⟩ => ⟨b, e, x.trans mg2⟩⟩
  | [p, q, r], _, _, hd, hn, hjl =>
    simp only [List.map_cons, List.map_nil, List.sum_cons, List.sum_nil] at hn
    exact ⟨_, _, t_ellG w _ p r g [q] ta tb (split_is hd) (contains_more p q [r]), ⟨hjl, hg, by omega, by omega, Nat.le_refl _, fun x h => by rw [List.mem_singleton.mp h]; omega⟩, fun r h' ⟨b, e, x⟩ => ⟨b, e, x.trans mg3⟩⟩
end Mine
end
section
open PySem PySem.W PyProof.Rows PySem.Calls
set_option Elab.async false
set_option maxRecDepth 100000
namespace Mine
noncomputable def lts (a b : List (Addr × Obj)) : Prop := ∀ q ∈ a, ∀ p ∈ b, q.1 < p.1
section
open LCg
variable {prog : Program} {w : World} {A : Around} {E : Value → Shared → Prop} {s : Shared} {h₀ : Heap} {L : Addr} {m : Str → Option Value} {env : Env}
theorem restV {elt : Expr} {x : Str} {scope : Scope} {cl : List (Str × Addr)} {S : List (Addr × Obj) → Prop} {P : Nat → Value → Prop} {Fin : List Value → List (Addr × Obj) → Prop} {news : List (Addr × Obj)} {n : Nat}
    {R : Nat → Obj → Prop} (hS : ∀ ex, S (news ++ ex))
    (turn : ∀ i v, P i v → i < n → ∀ ys ex I oI C oC D m₂ h tk, NsObj oC m₂ → m₂ x = some v → Fr h₀ L h m → News h₀ L h ((I, oI) :: (C, oC) :: (D, lst ys) :: (news ++ ex)) → 
      wpAny (model prog w) A (eval elt (compEnvC scope cl C env)) (EltN h₀ L m { s with heap := h, toks := tk } ((I, oI) :: (C, oC) :: (D, lst ys) :: (news ++ ex)) (R i)) NoE { s with heap := h, toks := tk })
    (fin : ∀ ys ex, ys.length = n → Made R ys ex → lts news ex → Fin ys (news ++ ex)) :
    ∀ (k i : Nat) (ys : List Value) (ex : List (Addr × Obj)), i + k = n → ys.length = i → Made R ys ex → lts news ex → CompRest prog w A h₀ L m env elt x scope cl s S P Fin k i ys (news ++ ex) := by
  intro k
  induction k with
  | zero => intro i ys ex e1 e2 hR hl; exact CompRest.zero (fin ys ex (by omega) hR hl)
  | succ k ih =>
    intro i ys ex e1 e2 hR hl
    refine CompRest.succ fun v I oI C oC D m₂ h tk E' hP hC hx F N off ne => ?_
    refine wpAny_mono (turn i v hP (by omega) ys ex I oI C oC D m₂ h tk hC hx F N) (fun y s' hy => ?_) fun _ _ e => e.elim
    obtain ⟨h', tk', b, o, rfl, rfl, F', N', lt, r⟩ := hy
    have hlt := allLt_mem lt
    have offm := off.mem
    refine ⟨h', tk', news ++ (ex ++ [(b, o)]), rfl, F', ?_, ?_, hS _, ih (i + 1) (ys ++ [.ref b]) (ex ++ [(b, o)]) (by omega) (by simp [e2]) (fun j z hj => ?_) (fun q hq p hp => ?_)⟩
    · intro p hp
      refine N' p ?_
      simp only [List.mem_cons, List.mem_append, List.not_mem_nil, or_false] at hp ⊢
      rcases hp with h | h | h | h | h | h
      · exact .inr (.inl h)
      · exact .inr (.inr (.inl h))
      · exact .inr (.inr (.inr (.inl h)))
      · exact .inr (.inr (.inr (.inr (.inl h))))
      · exact .inr (.inr (.inr (.inr (.inr h))))
      · exact .inl h
    · refine Off3.of fun p hp => ?_
      rw [← List.append_assoc] at hp
      rcases List.mem_append.mp hp with hp | hp
      · exact offm p hp
      · rw [List.mem_singleton.mp hp]
        exact ⟨Ne.symm (Nat.ne_of_lt (hlt (I, oI) (by simp))), Ne.symm (Nat.ne_of_lt (hlt (C, oC) (by simp))), Ne.symm (Nat.ne_of_lt (hlt (D, lst ys) (by simp)))⟩
    · by_cases hji : j < ys.length
      · rw [List.getElem?_append_left hji] at hj
        obtain ⟨b', o', e, hm, hr⟩ := hR j z hj
        exact ⟨b', o', e, List.mem_append_left _ hm, hr⟩
      · rw [List.getElem?_append_right (by omega)] at hj
        have h0 : j - ys.length = 0 := by
          cases q : j - ys.length with
          | zero => rfl
          | succ q' => rw [q] at hj; simp at hj
        rw [h0] at hj
        simp at hj
        have : j = i := by omega
        subst this; subst hj
        exact ⟨b, o, rfl, by simp, r⟩
    · rcases List.mem_append.mp hp with hp | hp
      · exact hl q hq p hp
      · rw [List.mem_singleton.mp hp]
        exact hlt q (by simp [hq])
noncomputable def EltS (h₀ : Heap) (L : Addr) (m : Str → Option Value) (s : Shared) (keep : List (Addr × Obj)) (R : Value → Prop) (y : Value) (s' : Shared) : Prop := ∃ h' tk, s' = { s with heap := h', toks := tk } ∧ Fr h₀ L h' m ∧ News h₀ L h' keep ∧ R y
theorem eltS_ {h₀ h' : Heap} {L : Addr} {m : Str → Option Value} {s : Shared} {keep : List (Addr × Obj)} {R : Value → Prop} {y : Value} {tk : Nat} (F : Fr h₀ L h' m) (N : News h₀ L h' keep) (r : R y) : EltS h₀ L m s keep R y { s with heap := h', toks := tk } := ⟨h', tk, rfl, F, N, r⟩
theorem restS {elt : Expr} {x : Str} {scope : Scope} {cl : List (Str × Addr)} {S : List (Addr × Obj) → Prop} {P : Nat → Value → Prop} {Fin : List Value → List (Addr × Obj) → Prop} {news : List (Addr × Obj)} {n : Nat}
    {R : Nat → Value → Prop} (hS : S news)
    (turn : ∀ i v, P i v → i < n → ∀ ys I oI C oC D m₂ h tk, NsObj oC m₂ → m₂ x = some v → Fr h₀ L h m → News h₀ L h ((I, oI) :: (C, oC) :: (D, lst ys) :: news) → 
      wpAny (model prog w) A (eval elt (compEnvC scope cl C env)) (EltS h₀ L m { s with heap := h, toks := tk } ((I, oI) :: (C, oC) :: (D, lst ys) :: news) (R i)) NoE { s with heap := h, toks := tk })
    (fin : ∀ ys, ys.length = n → (∀ (i : Nat) (y : Value), ys[i]? = some y → R i y) → Fin ys news) :
    ∀ (k i : Nat) (ys : List Value), i + k = n → ys.length = i → (∀ (i : Nat) (y : Value), ys[i]? = some y → R i y) → CompRest prog w A h₀ L m env elt x scope cl s S P Fin k i ys news := by
  intro k
  induction k with
  | zero => intro i ys e1 e2 hR; exact CompRest.zero (fin ys (by omega) hR)
  | succ k ih =>
    intro i ys e1 e2 hR
    refine CompRest.succ fun v I oI C oC D m₂ h tk E' hP hC hx F N off ne => ?_
    refine wpAny_mono (turn i v hP (by omega) ys I oI C oC D m₂ h tk hC hx F N) (fun y s' hy => ?_) fun _ _ e => e.elim
    obtain ⟨h', tk', rfl, F', N', r⟩ := hy
    refine ⟨h', tk', news, rfl, F', N', off, hS, ih (i + 1) (ys ++ [y]) (by omega) (by simp [e2]) fun j z hj => ?_⟩
    by_cases hji : j < ys.length
    · rw [List.getElem?_append_left hji] at hj; exact hR j z hj
    · rw [List.getElem?_append_right (by omega)] at hj
      have h0 : j - ys.length = 0 := by
        cases q : j - ys.length with
        | zero => rfl
        | succ q' => rw [q] at hj; simp at hj
      rw [h0] at hj
      simp at hj
      have : j = i := by omega
      subst this; subst hj
      exact r
end
section
open LCg LCt
variable {prog : Program} {w : World} {A : Around} {E : Value → Shared → Prop} {s : Shared} {h₀ : Heap} {L : Addr} {m : Str → Option Value} {env : Env}
noncomputable def TestS (h₀ : Heap) (L : Addr) (m : Str → Option Value) (s : Shared) (keep : List (Addr × Obj)) (c : Bool) (y : Bool) (s' : Shared) : Prop := ∃ h' tk, s' = { s with heap := h', toks := tk } ∧ Fr h₀ L h' m ∧ News h₀ L h' keep ∧ y = c
theorem testS_ {h₀ h' : Heap} {L : Addr} {m : Str → Option Value} {s : Shared} {keep : List (Addr × Obj)} {c : Bool} {y : Bool} {tk : Nat} (F : Fr h₀ L h' m) (N : News h₀ L h' keep) (r : y = c) : TestS h₀ L m s keep c y { s with heap := h', toks := tk } := ⟨h', tk, rfl, F, N, r⟩
theorem restT {ct elt : Expr} {x : Str} {scope : Scope} {cl : List (Str × Addr)} {S : List (Addr × Obj) → Prop} {P : Nat → Value → Prop} {Fin : List Value → List (Addr × Obj) → Prop} {news : List (Addr × Obj)} {n : Nat} {c : Nat → Bool} (hS : S news)
    (test : ∀ i v, P i v → i < n → ∀ ys I oI C oC D m₂ h tk, NsObj oC m₂ → m₂ x = some v → Fr h₀ L h m → News h₀ L h ((I, oI) :: (C, oC) :: (D, lst ys) :: news) →
      wpAny (model prog w) A (isTrue ct (compEnvC scope cl C env) (eval ct (compEnvC scope cl C env))) (TestS h₀ L m { s with heap := h, toks := tk } ((I, oI) :: (C, oC) :: (D, lst ys) :: news) (c i)) NoE { s with heap := h, toks := tk })
    (turn : ∀ i v, P i v → i < n → ∀ ys I oI C oC D m₂ h tk, NsObj oC m₂ → m₂ x = some v → Fr h₀ L h m → News h₀ L h ((I, oI) :: (C, oC) :: (D, lst ys) :: news) → 
      wpAny (model prog w) A (eval elt (compEnvC scope cl C env)) (EltS h₀ L m { s with heap := h, toks := tk } ((I, oI) :: (C, oC) :: (D, lst ys) :: news) (fun y => ∃ t, y = .int (i : Int) t)) NoE { s with heap := h, toks := tk })
    (fin : ∀ ys js, IntsAre ys js → js = ((List.range n).filter c).map (fun (i : Nat) => (i : Int)) → Fin ys news) :
    ∀ (k i : Nat) (ys : List Value) (js : List Int), i + k = n → ys.length ≤ i → IntsAre ys js → js = ((List.range i).filter c).map (fun (i : Nat) => (i : Int)) → CompRestT prog w A h₀ L m env ct elt x scope cl s S P Fin k i ys news := by
  intro k
  induction k with
  | zero =>
    intro i ys js e1 _ hI hj
    have : i = n := by omega
    subst this
    exact CompRestT.zero (fin ys js hI hj)
  | succ k ih =>
    intro i ys js e1 e2 hI hj
    refine CompRestT.succ fun v I oI C oC D m₂ h tk E' hP hC hx F N off ne => ?_
    refine wpAny_mono (test i v hP (by omega) ys I oI C oC D m₂ h tk hC hx F N) (fun y s' hy => ?_) fun _ _ e => e.elim
    obtain ⟨h', tk', rfl, F', N', rfl⟩ := hy
    cases hc : c i with
    | true =>
      rw [if_pos rfl]
      refine wpAny_mono (turn i v hP (by omega) ys I oI C oC D m₂ h' tk' hC hx F' N') (fun y s' hy => ?_) fun _ _ e => e.elim
      obtain ⟨h2, tk2, rfl, F2, N2, t, rfl⟩ := hy
      refine ⟨h2, tk2, news, rfl, F2, N2, off, hS, ih (i + 1) (ys ++ [.int (i : Int) t]) (js ++ [(i : Int)]) (by omega) (by simp; omega) (hI.append (.cons _ _ .nil)) ?_⟩
      rw [List.range_succ, List.filter_append, List.map_append, hj]
      simp [hc]
    | false =>
      rw [if_neg (by simp)]
      refine ⟨h', tk', news, rfl, F', N', off, hS, ih (i + 1) ys js (by omega) (by omega) hI ?_⟩
      rw [List.range_succ, List.filter_append, List.map_append, hj]
      simp [hc]
end
section
variable {prog : Program} {w : World} {A : Around} {s : Shared} {env : Env} {h₀ : Heap} {target : Expr} {body : List Stmt} {Q : Flow → Shared → Prop} {L : Addr}
noncomputable def ForAt (prog : Program) (w : World) (A : Around) (target : Expr) (body : List Stmt) (env : Env) (Q : Flow → Shared → Prop) (x : Value) (s₁ : Shared) : Prop :=
  wpAny (model prog w) A (pyIter x) (fun it s₂ => codeAny (model prog w) A (.forLoop target it body [] env) (fun r s' => match r with | .ok f => Q f s' | .error e => cameBackBy (model prog w) A env NoE e s') s₂) NoE s₁
theorem for_open {iter : Expr} {pos : Pos} (h : wpAny (model prog w) A (eval iter env) (ForAt prog w A target body env Q) NoE s) (hs : ∀ x, foldedSetIterable iter env x = pure x := by intro _; rfl) :
    wpAny (model prog w) A (exec (.For target iter body [] pos) env) Q NoE s := wpAny_For h hs
theorem for_at {l : Addr} {vs : List Value} {nn : Nat} {m : Str → Option Value} {news : List (Addr × Obj)}
    (J : Nat → (Str → Option Value) → List (Addr × Obj) → Prop) (hh : A.handled = none) (hL : env.locals = L)
    (hmem : ∀ i m' news', J i m' news' → (l, W.listOf vs.toArray nn) ∈ news') (F : Fr h₀ L s.heap m) (N : News h₀ L s.heap news) (h0 : J 0 m news)
    (turn : ∀ I i v m₁ news₁ h tk o, vs[i]? = some v → J i m₁ news₁ → (∀ p ∈ news₁, p.1 ≠ I) → Fr h₀ L h m₁ → News h₀ L h ((I, o) :: news₁) →
      wpAny (model prog w) A (assign target env v) (fun _ s₂ => wpAny (model prog w) A (execs body env) (Turn h₀ L (I, o) (J (i + 1)) s Q) NoE s₂) NoE { s with heap := h, toks := tk })
    (hR : ∀ m' news' h' tk, J vs.length m' news' → Fr h₀ L h' m' → News h₀ L h' news' → Q .next { s with heap := h', toks := tk }) :
    ForAt prog w A target body env Q (.ref l) s := by
  subst hL
  have hol := (N _ (hmem _ _ _ h0)).1
  have hls : s.heap.IsList l vs.toArray := ⟨_, hol, rfl, nn, rfl⟩
  have hne : l ≠ s.heap.objs.size := Nat.ne_of_lt (Heap.lt_size hol)
  refine wpAny_pyIter_list hls ?_
  have W := Walks.list (prog := prog) (w := w) hh s.heap.objs.size l hne vs.toArray
  rw [show vs.toArray.size = vs.length by simp] at W
  refine forLoop_walks W (Nat.ne_of_gt F.ns.lt) (next_is_new F) (fun i s' v Q' st hQ' => letGo_listiter st.1 hQ') (fun i h st => let ⟨o, ho, _⟩ := st.1; ⟨o, ho⟩) J
    (fun i h h' m' news' st e F' N' hJ => ⟨let ⟨o, ho, r⟩ := st.1; ⟨o, e.trans ho, r⟩, ⟨_, (N' _ (hmem _ _ _ hJ)).1, rfl, nn, rfl⟩⟩)
    ⟨⟨_, Heap.get?_push_size _ rfl, rfl, rfl⟩, hls.at fun o e => Heap.get?_push_of_some _ e⟩ (F.push _) (fun p hp => ⟨Heap.get?_push_of_some _ (N p hp).1, (N p hp).2⟩)
    (fun p hp => Nat.ne_of_lt (Heap.lt_size (N p hp).1)) h0 (fun i v m₁ news₁ h tk o _ hP hJ hn F' N' => turn _ i v m₁ news₁ h tk o (by simpa using hP) hJ hn F' N') hR (fun _ _ x => x)
end
section
variable {M : Model} {A : Around} {E : Value → Shared → Prop} {s : Shared} {h₀ : Heap} {L a : Addr} {m : Str → Option Value} {cn : Str} {cs : Scope} {ccd : Value} {cl : List (Str × Addr)} {x : Str} {v : Value} {Q : Unit → Shared → Prop} {news keep : List (Addr × Obj)} {c : Addr} {o : Obj} {v₀ : Option Value}
theorem store_cell (keep : List (Addr × Obj)) (F : Fr h₀ L s.heap m) (N : News h₀ L s.heap news) (hc : cl.lookup x = some c) (hm : (c, o) ∈ news) (hk1 : ∀ p ∈ keep, p ∈ news) (hk2 : ∀ p ∈ keep, p.1 ≠ c) (hd : o.data = .cell v₀)
    (h : ∀ h' o', Fr h₀ L h' m → News h₀ L h' ((c, o') :: keep) → o'.data = .cell (some v) → Q () { s with heap := h' })
    (hk : cs.kind = .function := by rfl) (hx : (envX cn cs L a ccd cl).kindOf x = some .cell := by rfl) : wpAny M A (storeName (envX cn cs L a ccd cl) x v) Q E s :=
  storeX_C (g := fun o' => (c, o') :: keep) F (fun p hp => (List.mem_cons.mp hp).elim (fun e => N p (e ▸ hm)) fun hp => N p (hk1 p hp)) hc (UpdF.head hk2) hd h hk hx
end
end Mine
end
section
open PySem PySem.W PyProof.Rows PySem.Calls
set_option Elab.async false
set_option maxRecDepth 100000
set_option maxHeartbeats 1000000
namespace Mine
noncomputable def Good (h₀ : Heap) (L : Addr) (s : Shared) (f : Flow) (s' : Shared) : Prop := f = .ret (.bool true) ∧ ∃ h tk m, s' = { s with heap := h, toks := tk } ∧ Fr h₀ L h m ∧ News h₀ L h []
theorem good_ {h₀ h : Heap} {L : Addr} {s : Shared} {tk : Nat} {m : Str → Option Value} (F : Fr h₀ L h m) : Good h₀ L s (.ret (.bool true)) { s with heap := h, toks := tk } := ⟨rfl, h, tk, m, rfl, F, News.nil⟩
theorem enter_good {M : Model} {A : Around} {t : Sem Flow} {Q : Flow → Shared → Prop} {E : Value → Shared → Prop} {s1 : Shared} {h1 : Heap} {tk : Nat} {L : Addr} {m : Str → Option Value} (_ : Fr s1.heap L h1 m)
    (inner : wpAny M A t (Good s1.heap L s1) NoE { s1 with heap := h1, toks := tk }) (k : ∀ h tk m, Fr s1.heap L h m → News s1.heap L h [] → Q (.ret (.bool true)) { s1 with heap := h, toks := tk }) : wpAny M A t Q E { s1 with heap := h1, toks := tk } :=
  wpAny_mono inner (fun f s' x => by obtain ⟨rfl, h, tk, m, rfl, F, N⟩ := x; exact k h tk m F N) fun _ _ x => x.elim
noncomputable def FlagSrc : Prop := True
theorem marks_ok (ns : List Int) : (∀ x ∈ List.map (fun (k' : Int) => k'.fmod (10 ^ Int.toNat 6)) (List.take 4 ns), 0 ≤ x ∧ x < 1000000) ∧ (List.map (fun (k' : Int) => k'.fmod (10 ^ Int.toNat 6)) (List.take 4 ns)).length ≤ 4 := by
  refine ⟨fun x hx => ?_, by rw [List.length_map, List.length_take]; omega⟩
  obtain ⟨y, _, rfl⟩ := List.mem_map.mp hx
  have e : (10 : Int) ^ Int.toNat 6 = 1000000 := by decide
  rw [e]
  exact ⟨Int.fmod_nonneg_of_pos _ (by decide), Int.fmod_lt_of_pos _ (by decide)⟩
noncomputable def colT (turn x : Int) : Int × Int := ((x.fmod 3 * 5 + turn).fmod 16, (x.fdiv 3).fmod 2)
theorem colT_ok (turn x : Int) : ColOk (colT turn x) := by
  refine ⟨Int.fmod_nonneg_of_pos _ (by decide), Int.fmod_lt_of_pos _ (by decide), ?_⟩
  have h0 := Int.fmod_nonneg_of_pos (x.fdiv 3) (show (0 : Int) < 2 by decide)
  have h1 := Int.fmod_lt_of_pos (x.fdiv 3) (show (0 : Int) < 2 by decide)
  show (x.fdiv 3).fmod 2 = 0 ∨ (x.fdiv 3).fmod 2 = 1
  omega
theorem pick5 {h₀ h : Heap} {L : Addr} {a b c d e f g i : Addr × Obj} (N : News h₀ L h [a, b, c, d, e, f, g, i]) : News h₀ L h [a, d, f, g, i] := fun x hx => N x (by
  simp only [List.mem_cons, List.not_mem_nil, or_false] at hx ⊢
  rcases hx with h | h | h | h | h <;> simp [h])
noncomputable def Tup (c : Int × Int) (o : Obj) : Prop := ∃ t u n, o.cls = .type "tuple" ∧ o.data = .seq #[.int c.1 t, .int c.2 u] n
inductive StA (L : Addr) (mk : List Int) (cs : List (Int × Int)) (m : Str → Option Value) (news : List (Addr × Obj)) : Prop
  | mk (K : List (Addr × Obj)) (oR oS : Obj) (st M : Addr) (ys : List Value) (n : Nat) (x1 : news = (L + 1 + 1 + 1, oR) :: K) (x2 : ∀ p ∈ K, p.1 ≠ L + 1 + 1 + 1) (x3 : ∃ c, oR.data = .cell c) (x4 : (L + 1 + 1, oS) ∈ K) (x5 : oS.data = .cell (some (.ref st))) (x6 : RowIn K cs (.ref st)) (x7 : (M, W.listOf ys.toArray n) ∈ K) (x8 : IntsAre ys mk) (x9 : m (Str.ofString "marks") = some (.ref M)) : StA L mk cs m news
theorem stA_ {h₀ h : Heap} {L D M R S : Addr} {s : Shared} {tk nM : Nat} {m : Str → Option Value} {mk xs : List Int} {turn : Int} {ys zs : List Value} {ex : List (Addr × Obj)} {oR oS : Obj}
    (F : Fr h₀ L h m) (N : News h₀ L h ((S, oS) :: (D, LCg.lst ys) :: (M, W.listOf zs.toArray nM) :: (R, oR) :: ex)) (hyl : ys.length = xs.length) (hM : Made (fun i o => ∃ x, xs[i]? = some x ∧ Tup (colT turn x) o) ys ex)
    (eR : R = L + 1 + 1 + 1) (eS : S = L + 1 + 1) (hD : D ≠ R) (hMR : M ≠ R) (hex : ∀ p ∈ ex, R < p.1) (hR : oR.data = .cell none) (hS : oS.data = .cell (some (.ref D))) (hI : IntsAre zs mk) (hm : m (Str.ofString "marks") = some (.ref M)) :
    Mid h₀ L s (StA L mk (xs.map (colT turn))) .next { s with heap := h, toks := tk } := by
  subst eR eS
  refine Mid.intro (news := (L + 1 + 1 + 1, oR) :: (L + 1 + 1, oS) :: (D, LCg.lst ys) :: (M, W.listOf zs.toArray nM) :: ex) F (fun p hp => N p ?_) ⟨_, oR, oS, D, M, zs, nM, rfl, ?_, ⟨_, hR⟩, .head _, hS, ⟨ys, ⟨D, _, rfl, .tail _ (.head _)⟩, ?_⟩, .tail _ (.tail _ (.head _)), hI, hm⟩
  · simp only [List.mem_cons] at hp ⊢
    rcases hp with h | h | h | h | h <;> simp [h]
  · intro p hp
    simp only [List.mem_cons] at hp
    rcases hp with rfl | rfl | rfl | hp
    · exact Nat.ne_of_lt (Nat.lt_succ_self _)
    · exact hD
    · exact hMR
    · exact Ne.symm (Nat.ne_of_lt (hex p hp))
  · refine ⟨by simp [hyl], fun i v e => ?_⟩
    obtain ⟨b, o, rfl, hm', x, hx, t, u, n, hc, hd⟩ := hM i v e
    exact ⟨colT turn x, by rw [List.getElem?_map, hx]; rfl, b, o, n, t, u, rfl, .tail _ (.tail _ (.tail _ hm')), hc, hd⟩
section
variable {M : Model} {A : Around} {E : Value → Shared → Prop} {s : Shared} {h₀ : Heap} {L a : Addr} {m : Str → Option Value} {cn : Str} {cs : Scope} {ccd : Value} {cl : List (Str × Addr)} {x : Str} {v : Value} {Q : Unit → Shared → Prop} {c : Addr} {v₀ : Option Value}
theorem store_strip {D : Addr} {oD oS : Obj} {e b r t : Addr × Obj} {ex : List (Addr × Obj)} (F : Fr h₀ L s.heap m) (N : News h₀ L s.heap ((D, oD) :: ([e, b, r, (c, oS), t] ++ ex))) (off : LCg.Off1 D ([e, b, r, (c, oS), t] ++ ex)) (lt : lts [e, b, r, (c, oS), t] ex)
    (hc : cl.lookup x = some c) (hb : b.1 ≠ c) (hr : r.1 ≠ c) (hd : oS.data = .cell v₀)
    (h : ∀ h' o', Fr h₀ L h' m → News h₀ L h' ((c, o') :: (D, oD) :: b :: r :: ex) → o'.data = .cell (some v) → Q () { s with heap := h' })
    (hk : cs.kind = .function := by rfl) (hx : (envX cn cs L a ccd cl).kindOf x = some .cell := by rfl) : wpAny M A (storeName (envX cn cs L a ccd cl) x v) Q E s := by
  refine store_cell ((D, oD) :: b :: r :: ex) F N hc (.tail _ (.tail _ (.tail _ (.tail _ (.head _))))) (fun p hp => ?_) (fun p hp => ?_) hd h hk hx
  · simp only [List.mem_cons, List.cons_append, List.nil_append] at hp ⊢
    rcases hp with h | h | h | h <;> simp [h]
  · simp only [List.mem_cons] at hp
    rcases hp with rfl | rfl | rfl | hp
    · exact Ne.symm off.2.2.2.1
    · exact hb
    · exact hr
    · exact Ne.symm (Nat.ne_of_lt (lt (c, oS) (by simp) p hp))
end
theorem rowAt_of {K news : List (Addr × Obj)} {h₀ h : Heap} {L : Addr} {cs : List (Int × Int)} {v : Value} (hr : RowIn K cs v) (N : News h₀ L h news) (hs : ∀ p ∈ K, p ∈ news) : RowAt cs v h := ⟨K, fun p hp => (N p (hs p hp)).1, hr⟩
theorem ne_same {prog : Program} {w : World} {A : Around} {E : Value → Shared → Prop} {s : Shared} {x : Str} {t u : Tok} {Q : Value → Shared → Prop} (h : Q (.bool false) s) : wpAny (model prog w) A (compareOp .NotEq (.str x t) (.str x u)) Q E s :=
  PyProof.Rows.ne_str (by rw [show (x != x) = false by simp]; exact h)
theorem after_new {h₀ h h' : Heap} {L : Addr} {m : Str → Option Value} {news ex : List (Addr × Obj)} (F : Fr h₀ L h m) (hn : New h h' ex) (N' : News h₀ L h' news) : News h₀ L h' (ex ++ news) := by
  intro p hp
  rcases List.mem_append.mp hp with hp | hp
  · exact (news_cons F N' (hn p hp).1 (hn p hp).2) p (.head _)
  · exact N' p hp
theorem New.ne {h h' : Heap} {ex : List (Addr × Obj)} (hn : New h h' ex) {R : Addr} {o : Obj} (e : h.get? R = some o) : ∀ p ∈ ex, p.1 ≠ R := fun p hp q => by
  have := (hn p hp).1
  rw [q, e] at this; cases this
theorem call_pieces {w : World} {dp un : Nat} {gd : Option (List Code)} {outer : List Env} {A₀ A : Around} {base h₀ : Heap} {s : Shared} {L : Addr} {m : Str → Option Value} {K : List (Addr × Obj)} {R : Addr} {oR : Obj} {mean : ExcName → Option Value} {mg mb : Str → Option Value} {env : Env} {Q E : Value → Shared → Prop}
    {v : Value} {cs : List (Int × Int)} {pick : Int} {t : Tok} (B : Below A₀ base outer h₀) (F : Fr h₀ L s.heap m) (N : News h₀ L s.heap ((R, oR) :: K)) (X : (hd.heap_39 w.params).In h₀) (T : Top hd.view_39 (looseW hd.view_39 []) mean mg mb h₀)
    (hK : ∀ p ∈ K, p.1 ≠ R) (hrow : RowIn K cs v) (hok : ∀ c ∈ cs, ColOk c) (hlen : cs.length ≤ 10) (h0 : 0 ≤ pick) (h1 : pick ≤ 1000000)
    (hA : A = amb dp un gd (env :: outer)) (hf : env.frame = some L) (hke : env.scope.kind = .function) (hd : dp + 2 < 1000) (hu : un + 16 * 2 < 9900)
    (h : ∀ r h' tk' K' ps, Fr h₀ L h' m → News h₀ L h' ((R, oR) :: K') → (∀ p ∈ K', p.1 ≠ R) → (∀ p ∈ K, p ∈ K') → PartsIn K' ps r → Okp ps → (ps.map List.length).sum ≤ 60 → Q r { s with heap := h', toks := tk' }) :
    wpAny (MM w) A (call (.ref 68) [v, .int pick t]) Q E s := by
  refine call_T (t_piecesR w v cs K pick t) B F N X T hA hf hke hd hu ⟨fun p hp => (N p (.tail _ hp)).1, hrow, hok, hlen, h0, h1⟩ fun r h' tk' F' N' st po => ?_
  obtain ⟨ex, ps, hn, p1, p3, pok, psum, vs, hl, hi⟩ := po
  refine h r h' tk' (ex ++ K) ps F' (fun p hp => ?_) (fun p hp => ?_) (fun p hp => List.mem_append_right _ hp) ⟨vs, hl.mono fun p hp => List.mem_append_left _ hp, hi⟩ ⟨p1, p3, pok⟩ psum
  · refine after_new F hn N' p ?_
    simp only [List.mem_cons, List.mem_append] at hp ⊢
    rcases hp with h | h | h <;> simp [h]
  · rcases List.mem_append.mp hp with hp | hp
    · exact hn.ne (N (R, oR) (.head _)).1 p hp
    · exact hK p hp
theorem swap2 {h₀ h : Heap} {L : Addr} {a b : Addr × Obj} {K : List (Addr × Obj)} (N : News h₀ L h (a :: b :: K)) : News h₀ L h (b :: a :: K) := fun x hx => N x (by
  simp only [List.mem_cons] at hx ⊢
  rcases hx with h | h | h <;> simp [h])
theorem pick3 {h₀ h : Heap} {L : Addr} {a b c d : Addr × Obj} {K : List (Addr × Obj)} (N : News h₀ L h (a :: b :: c :: d :: K)) : News h₀ L h (d :: a :: K) := fun x hx => N x (by
  simp only [List.mem_cons] at hx ⊢
  rcases hx with h | h | h <;> simp [h])
theorem len_sum {α : Type} {ps : List (List α)} {p : List α} (h : p ∈ ps) : p.length ≤ (ps.map List.length).sum := by
  induction ps with
  | nil => cases h
  | cons q ps ih =>
    simp only [List.map_cons, List.sum_cons]
    rcases List.mem_cons.mp h with rfl | h
    · omega
    · have := ih h; omega
theorem grow {h₀ h : Heap} {L R D : Addr} {oR o : Obj} {K : List (Addr × Obj)} (N : News h₀ L h ((D, o) :: (R, oR) :: K)) (hK : ∀ p ∈ K, p.1 ≠ R) (hD : D ≠ R) :
    ∃ K', News h₀ L h ((R, oR) :: K') ∧ (∀ p ∈ K', p.1 ≠ R) ∧ (∀ p ∈ K, p ∈ K') ∧ (D, o) ∈ K' :=
  ⟨(D, o) :: K, swap2 N, fun p hp => (List.mem_cons.mp hp).elim (fun e => e ▸ hD) (hK p), fun p hp => .tail _ hp, .head _⟩
theorem txts_of {b : Bool} {ps : List (List (Int × Int))} {ys : List Value} (hl : ys.length = ps.length) (h : ∀ (i : Nat) (y : Value), ys[i]? = some y → ∃ p t, ps[i]? = some p ∧ y = .str (sL (rd b p)) t) :
    ItemsAre (fun (q : List Nat) u => ∃ t, u = .str (sL q) t) ys (ps.map (rd b)) := by
  refine ⟨by rw [hl, List.length_map], fun i v e => ?_⟩
  obtain ⟨p, t, hp, rfl⟩ := h i v e
  exact ⟨rd b p, by rw [List.getElem?_map, hp]; rfl, t, rfl⟩
theorem ints_of {α : Type} {f : α → Int} : ∀ {ps : List α} {ys : List Value}, ys.length = ps.length → (∀ (i : Nat) (y : Value), ys[i]? = some y → ∃ p t, ps[i]? = some p ∧ y = .int (f p) t) → IntsAre ys (ps.map f)
  | [], ys, hl, _ => by rw [List.length_eq_zero_iff.mp hl]; exact .nil
  | p :: ps, ys, hl, h => by
    cases ys with
    | nil => cases hl
    | cons y ys =>
      obtain ⟨p', t, e, rfl⟩ := h 0 y rfl
      cases e
      exact .cons _ _ (ints_of (Nat.succ.inj hl) fun i y e => h (i + 1) y e)
theorem sum_len {α : Type} : ∀ ps : List (List α), (ps.map fun p => (p.length : Int)).sum = ((ps.map List.length).sum : Nat)
  | [] => rfl
  | p :: ps => by
    have := sum_len ps
    simp only [List.map_cons, List.sum_cons] at this ⊢
    rw [this]; push_cast; rfl
theorem call_shares {w : World} {dp un : Nat} {gd : Option (List Code)} {outer : List Env} {A₀ A : Around} {base h₀ : Heap} {s : Shared} {L : Addr} {m : Str → Option Value} {K : List (Addr × Obj)} {R H : Addr} {oR oH : Obj} {d : Addr × Obj} {mean : ExcName → Option Value} {mg mb : Str → Option Value} {env : Env} {Q E : Value → Shared → Prop}
    {f g : Int} {n : Nat} {t u : Tok} (B : Below A₀ base outer h₀) (F : Fr h₀ L s.heap m) (N : News h₀ L s.heap ((H, oH) :: d :: (R, oR) :: K)) (X : (hd.heap_39 w.params).In h₀) (T : Top hd.view_39 (looseW hd.view_39 []) mean mg mb h₀)
    (hK : ∀ p ∈ K, p.1 ≠ R) (hH : AllLt H K) (hg : g = (n : Int)) (hn : n ≤ 2) (h0 : f ≤ 100) (h1 : -100 ≤ f)
    (hA : A = amb dp un gd (env :: outer)) (hf : env.frame = some L) (hke : env.scope.kind = .function) (hd : dp + 2 < 1000) (hu : un + 16 * 2 < 9900)
    (h : ∀ r h' tk' K' vs, Fr h₀ L h' m → News h₀ L h' ((H, oH) :: (R, oR) :: K') → (∀ p ∈ K', p.1 ≠ R) → (∀ p ∈ K', p.1 ≠ H) → (∀ p ∈ K, p ∈ K') → LIn K' r vs → ItemsAre (ShIn K') vs (sharesL f n) → Q r { s with heap := h', toks := tk' }) :
    wpAny (MM w) A (call (.ref 73) [.int f t, .int g u]) Q E s := by
  refine call_T (t_shares w f g n t u hg) B F N X T hA hf hke hd hu ⟨hn, h0, h1⟩ fun r h' tk' F' N' st po => ?_
  obtain ⟨ex, hn, vs, hl, hi⟩ := po
  refine h r h' tk' (ex ++ K) vs F' (fun p hp => ?_) (fun p hp => ?_) (fun p hp => ?_) (fun p hp => List.mem_append_right _ hp) (hl.mono fun p hp => List.mem_append_left _ hp) (ItemsAre.imp hi fun _ _ y => y.mono fun p hp => List.mem_append_left _ hp)
  · refine after_new F hn N' p ?_
    simp only [List.mem_cons, List.mem_append] at hp ⊢
    rcases hp with h | h | h | h <;> simp [h]
  · rcases List.mem_append.mp hp with hp | hp
    · exact hn.ne (N (R, oR) (.tail _ (.tail _ (.head _)))).1 p hp
    · exact hK p hp
  · rcases List.mem_append.mp hp with hp | hp
    · exact hn.ne (N (H, oH) (.head _)).1 p hp
    · exact Nat.ne_of_lt (allLt_mem hH p hp)
inductive JI (H R : Addr) (K : List (Addr × Obj)) (cs : List (Int × Int)) (ps : List (List (Int × Int))) (pa D D2 : Addr) (i : Nat) (m : Str → Option Value) (news : List (Addr × Obj)) : Prop
  | mk (oR : Obj) (n : Nat) (x1 : news = (H, W.listOf (((sharesL ((cs.length : Int) - sumL ps) (ps.length - 1)).take i).map fun ks => Value.bool (strB cs (fillG fillC ps ks))).toArray n) :: (R, oR) :: K) (x2 : ∃ c, oR.data = .cell c) (x3 : ∃ t, m (Str.ofString "text") = some (.str (sL (rd false cs)) t)) (x4 : ∃ t, m (Str.ofString "negative") = some (.str (sL (rd true cs)) t)) (x5 : m (Str.ofString "pieces") = some (.ref pa)) (x6 : m (Str.ofString "plain") = some (.ref D)) (x7 : m (Str.ofString "turned") = some (.ref D2)) (x8 : ∃ t, m (Str.ofString "free") = some (.int ((cs.length : Int) - sumL ps) t)) (x9 : m (Str.ofString "hits") = some (.ref H)) : JI H R K cs ps pa D D2 i m news
theorem rot3 {h₀ h : Heap} {L : Addr} {a b c : Addr × Obj} {K : List (Addr × Obj)} (N : News h₀ L h (a :: b :: c :: K)) : News h₀ L h (b :: c :: a :: K) := fun x hx => N x (by
  simp only [List.mem_cons] at hx ⊢
  rcases hx with h | h | h | h <;> simp [h])
theorem call_row {w : World} {dp un : Nat} {gd : Option (List Code)} {outer : List Env} {A₀ A : Around} {base h₀ : Heap} {s : Shared} {L : Addr} {m : Str → Option Value} {K : List (Addr × Obj)} {R H c T : Addr} {oR oH oT : Obj} {mean : ExcName → Option Value} {mg mb : Str → Option Value} {env : Env} {Q E : Value → Shared → Prop}
    {vp vk : Value} {ps : List (List (Int × Int))} {ks : List Int} {nc n : Nat} {t u : Tok} (B : Below A₀ base outer h₀) (F : Fr h₀ L s.heap m) (N : News h₀ L s.heap ((c, W.listOf #[.ref T] nc) :: (T, oT) :: (H, oH) :: (R, oR) :: K)) (X : (hd.heap_39 w.params).In h₀) (TT : Top hd.view_39 (looseW hd.view_39 []) mean mg mb h₀)
    (hK : ∀ p ∈ K, p.1 ≠ R) (hH : ∀ p ∈ K, p.1 ≠ H) (hHR : H ≠ R) (a1 : H < T) (a2 : R < T) (a3 : H < c) (a4 : R < c) (hparts : PartsIn K ps vp) (hsh : ShIn K ks vk) (hfit : Fits ps ks) (hoT : oT = { cls := .type "tuple", data := .seq #[.int 16 t, .int 0 u] n })
    (hA : A = amb dp un gd (env :: outer)) (hf : env.frame = some L) (hke : env.scope.kind = .function) (hd : dp + 2 < 1000) (hu : un + 16 * 2 < 9900)
    (h : ∀ r h' tk' K', Fr h₀ L h' m → News h₀ L h' ((R, oR) :: (H, oH) :: K') → (∀ p ∈ K', p.1 ≠ R) → (∀ p ∈ K', p.1 ≠ H) → (∀ p ∈ K, p ∈ K') → RowIn K' (fillG fillC ps ks) r → Q r { s with heap := h', toks := tk' }) :
    wpAny (MM w) A (call (.ref 80) [vp, vk, .ref c]) Q E s := by
  have HH := has_of N
  have hs : ∀ p ∈ K, p ∈ (c, W.listOf #[Value.ref T] nc) :: (T, oT) :: K := fun p hp => .tail _ (.tail _ hp)
  have hs2 : ∀ p ∈ (c, W.listOf #[Value.ref T] nc) :: (T, oT) :: K, p ∈ (c, W.listOf #[Value.ref T] nc) :: (T, oT) :: (H, oH) :: (R, oR) :: K := fun p hp => by
    simp only [List.mem_cons] at hp ⊢
    rcases hp with h | h | h <;> simp [h]
  refine call_T (t_fillRow w vp vk c ps ks ((c, W.listOf #[Value.ref T] nc) :: (T, oT) :: K)) B F N X TT hA hf hke hd hu ⟨fun p hp => HH p (hs2 p hp), let ⟨a, b, d⟩ := hparts; ⟨a, b.mono hs, ItemsAre.imp d fun _ _ y => y.mono hs⟩, hsh.mono hs, hfit, .ref T, nc, .head _, ⟨T, oT, n, t, u, rfl, .tail _ (.head _), by rw [hoT], by rw [hoT]; rfl⟩⟩ fun r h' tk' F' N' st po => ?_
  obtain ⟨ex, hn, hr⟩ := po
  have hnR := hn.ne (N (R, oR) (by simp)).1
  have hnH := hn.ne (N (H, oH) (by simp)).1
  refine h r h' tk' (ex ++ (c, W.listOf #[.ref T] nc) :: (T, oT) :: K) F' (fun p hp => ?_) (fun p hp => ?_) (fun p hp => ?_) (fun p hp => ?_) ?_
  · refine after_new F hn N' p ?_
    simp only [List.mem_cons, List.mem_append] at hp ⊢
    rcases hp with h | h | h | h | h | h <;> simp [h]
  · simp only [List.mem_cons, List.mem_append] at hp
    rcases hp with hp | rfl | rfl | hp
    · exact hnR p hp
    · exact Ne.symm (Nat.ne_of_lt a4)
    · exact Ne.symm (Nat.ne_of_lt a2)
    · exact hK p hp
  · simp only [List.mem_cons, List.mem_append] at hp
    rcases hp with hp | rfl | rfl | hp
    · exact hnH p hp
    · exact Ne.symm (Nat.ne_of_lt a3)
    · exact Ne.symm (Nat.ne_of_lt a1)
    · exact hH p hp
  · simp [hp]
  · exact hr
theorem fits_of {cs : List (Int × Int)} {ps : List (List (Int × Int))} {ks : List Int} (ho : Okp ps) (hl : ∀ p ∈ ps, p.length ≤ 60) (hn : cs.length ≤ 5) (hk : ks ∈ sharesL ((cs.length : Int) - sumL ps) (ps.length - 1)) : Fits ps ks := by
  refine ⟨ho.1, ho.2.1, ?_, ?_, fun p hp => by have := hl p hp; omega⟩
  · rcases shape ho hk with ⟨p, rfl, rfl, _⟩ | ⟨p, q, k, rfl, rfl, _⟩ | ⟨p, q, r, k, l, rfl, rfl, _⟩ <;> rfl
  · intro x hx
    rcases shape ho hk with ⟨p, rfl, rfl, h⟩ | ⟨p, q, k, rfl, rfl, h⟩ | ⟨p, q, r, k, l, rfl, rfl, h⟩
    · cases hx
    · simp only [List.mem_cons, List.not_mem_nil, or_false] at hx
      omega
    · simp only [List.mem_cons, List.not_mem_nil, or_false] at hx
      omega
theorem range_sz (n : Nat) : Builtin.Range.rangeSize 0 (n : Int) 1 = ((n : Nat) : Int) := by
  unfold Builtin.Range.rangeSize
  rw [if_pos (by decide)]
  split
  · rw [Int.ediv_one]; omega
  · omega
theorem tup_of {h₀ h : Heap} {L a : Addr} {news : List (Addr × Obj)} {o : Obj} {its : Array Value} {n : Nat} (N : News h₀ L h news) (hm : (a, o) ∈ news) (hc : o.cls = .type "tuple") (hd : o.data = .seq its n) : IsTup h a its := ⟨o, (N _ hm).1, hc, n, hd⟩
theorem ne_tup {prog : Program} {w : World} {A : Around} {E : Value → Shared → Prop} {s : Shared} {l b : Addr} {c d : Int × Int} {t u t' u' : Tok} {Q : Value → Shared → Prop} (hl : IsTup s.heap l #[.int c.1 t, .int c.2 u]) (hb : IsTup s.heap b #[.int d.1 t', .int d.2 u']) (hu : A.units < cLine)
    (h : Q (.bool (!decide (c = d))) s) : wpAny (model prog w) A (compareOp .NotEq (.ref l) (.ref b)) Q E s := by
  refine SeqAt.RcNeAt.tuples (e := fun j => if j = 0 then c.1 == d.1 else c.2 == d.2) hl hb hu (fun j h1 h2 => ?_) prog w E Q ?_
  · match j, h1 with
    | 0, _ => exact SeqAt.EqAt.int_int _ _ _ _
    | 1, _ => exact SeqAt.EqAt.int_int _ _ _ _
  · have e : (!((List.range (min (#[Value.int c.1 t, .int c.2 u] : Array Value).size (#[Value.int d.1 t', .int d.2 u'] : Array Value).size)).all (fun j => if j = 0 then c.1 == d.1 else c.2 == d.2) && (#[Value.int c.1 t, .int c.2 u] : Array Value).size == (#[Value.int d.1 t', .int d.2 u'] : Array Value).size)) = !decide (c = d) := by
      obtain ⟨c1, c2⟩ := c
      obtain ⟨d1, d2⟩ := d
      have hb : ∀ a b : Int, (a == b) = decide (a = b) := fun a b => by rw [Bool.eq_iff_iff]; simp
      simp [List.range_succ, Prod.mk.injEq, hb]
    rw [e]; exact h
theorem eq_nil {prog : Program} {w : World} {A : Around} {E : Value → Shared → Prop} {s : Shared} {l b : Addr} {vs : List Value} {r : Bool} {Q : Value → Shared → Prop} (hl : s.heap.IsList l vs.toArray) (hb : s.heap.IsList b #[]) (hu : A.units < cLine) (hr : vs.isEmpty = r)
    (h : Q (.bool r) s) : wpAny (model prog w) A (compareOp .Eq (.ref l) (.ref b)) Q E s := by
  subst hr
  cases vs with
  | nil => exact SeqAt.RcAt.lists (e := fun _ => true) hl hb rfl hu (fun j h1 => by simp at h1) prog w E Q h
  | cons v vs => exact SeqAt.RcAt.lists_lengths hl hb (by simp) hu prog w E Q h
inductive JO (R : Addr) (K : List (Addr × Obj)) (cs : List (Int × Int)) (m : Str → Option Value) (news : List (Addr × Obj)) : Prop
  | mk (oR : Obj) (x1 : news = (R, oR) :: K) (x2 : ∃ c, oR.data = .cell c) (x3 : ∃ t, m (Str.ofString "text") = some (.str (sL (rd false cs)) t)) (x4 : ∃ t, m (Str.ofString "negative") = some (.str (sL (rd true cs)) t)) : JO R K cs m news
theorem bad_eq {cs row : List (Int × Int)} {i : Nat} {d e : Int × Int} (h1 : row[i]? = some d) (h2 : cs[i]? = some e) : badAt cs row i = (decide (d.1 < 16) && !decide (d = e)) := by
  unfold badAt
  rw [List.getD_eq_getElem?_getD, List.getD_eq_getElem?_getD, h1, h2]
  rfl
theorem str_empty {cs row : List (Int × Int)} {ys : List Value} {js : List Int} (hI : IntsAre ys js) (hj : js = ((List.range cs.length).filter (badAt cs row)).map (fun (i : Nat) => (i : Int))) : ys.isEmpty = strB cs row := by
  have e : ys.isEmpty = ((List.range cs.length).filter (badAt cs row)).isEmpty := by
    have hl := hI.length
    rw [hj, List.length_map] at hl
    rw [Bool.eq_iff_iff, List.isEmpty_iff_length_eq_zero, List.isEmpty_iff_length_eq_zero, hl]
  rw [e, Bool.eq_iff_iff, List.isEmpty_iff, List.filter_eq_nil_iff]
  unfold strB
  rw [List.all_eq_true]
  simp
theorem fit_map {b : Bool} {ps : List (List (Int × Int))} {ks : List Int} (h : Fits ps ks) : Fits (ps.map (rd b)) ks := by
  obtain ⟨h1, h2, h3, h4, h5⟩ := h
  refine ⟨by simpa using h1, by simpa using h2, by simpa using h3, h4, fun q hq => ?_⟩
  obtain ⟨p, hp, rfl⟩ := List.mem_map.mp hq
  unfold rd
  rw [List.length_map]
  exact h5 p hp
theorem fill_len {b : Bool} {cs : List (Int × Int)} {ps : List (List (Int × Int))} {ks : List Int} (ho : Okp ps) (hk : ks ∈ sharesL ((cs.length : Int) - sumL ps) (ps.length - 1)) (hn : cs.length ≤ 5) : (fillG 35 (ps.map (rd b)) ks).length ≤ 40 := by
  rw [fill_read ho.2.2, List.length_map, (row_facts ho hk).1]; omega
theorem rd_len {b : Bool} {cs : List (Int × Int)} (hn : cs.length ≤ 5) : (rd b cs).length ≤ 40 := by unfold rd; rw [List.length_map]; omega
theorem shares_len (f : Int) (g : Nat) (h : f ≤ 10) : (sharesL f g).length ≤ 20 := by
  match g with
  | 0 => show (if f = 0 then [[]] else []).length ≤ 20; split <;> simp
  | 1 => show (if 0 ≤ f then [[f]] else []).length ≤ 20; split <;> simp
  | g + 2 => show (List.map (fun (i : Nat) => [(i : Int), f - (i : Int)]) (List.range (f + 1).toNat)).length ≤ 20; rw [List.length_map, List.length_range]; omega
section
variable {prog : Program} {w : World} {A : Around} {E : Value → Shared → Prop} {s : Shared} {h₀ : Heap} {L : Addr} {m : Str → Option Value} {news : List (Addr × Obj)}
theorem append_keep {D : Addr} {vs : List Value} {n : Nat} {x : Value} {Q : Value → Shared → Prop} (keep : List (Addr × Obj)) (F : Fr h₀ L s.heap m) (N : News h₀ L s.heap news) (hm : (D, W.listOf vs.toArray n) ∈ news) (hk1 : ∀ p ∈ keep, p ∈ news) (hk2 : ∀ p ∈ keep, p.1 ≠ D) (hz : vs.length ≤ 1000)
    (h : ∀ h', Fr h₀ L h' m → News h₀ L h' ((D, W.listOf (vs ++ [x]).toArray (n + 1)) :: keep) → Q .none { s with heap := h' }) : wpAny (model prog w) A (call (.builtin "list.append") [.ref D, x]) Q E s := by
  refine append_K (news' := (D, listOf (vs.toArray.push x) (n + 1)) :: keep) F (fun p hp => (List.mem_cons.mp hp).elim (fun e => N p (e ▸ hm)) fun hp => N p (hk1 p hp)) (Upd.head hk2) (fun h' F' N' => h h' F' ?_) (by rw [List.size_toArray, sizeLine_eq]; omega)
  rw [List.push_toArray] at N'
  exact N'
theorem strs_are {vs : List Value} : ∀ {qs : List (List Nat)} {vs : List Value}, ItemsAre (fun (q : List Nat) u => ∃ t, u = .str (sL q) t) vs qs → StrsAre vs (qs.map sL)
  | [], [], _ => .nil
  | q :: qs, v :: vs, h => by
    obtain ⟨q', e, t, rfl⟩ := h.2 0 v rfl
    cases e
    exact .cons _ _ (strs_are (vs := vs) ⟨by simpa using h.1, fun i v e => h.2 (i + 1) v e⟩)
  | [], _ :: _, h => by have := h.1; simp at this
  | _ :: _, [], h => by have := h.1; simp at this
theorem sum_sL : ∀ qs : List (List Nat), ((qs.map sL).map (·.length)).sum = (qs.map List.length).sum
  | [] => rfl
  | q :: qs => by
    have := sum_sL qs
    simp only [List.map_cons, List.sum_cons] at this ⊢
    rw [this, sL_len]
theorem join_txt {D : Addr} {vs : List Value} {qs : List (List Nat)} {t : Tok} {Q : Value → Shared → Prop} (hl : s.heap.IsList D vs.toArray) (hi : StrsAre vs (qs.map sL)) (hn : (qs.map List.length).sum ≤ 60) (hq : qs.length ≤ 3)
    (h : ∀ t' k, Q (.str (sL (joinL qs)) t') { s with toks := k }) : wpAny (model prog w) A (call (.builtin "str.join") [.str (Str.ofString "...") t, .ref D]) Q E s := by
  refine join_listC (ys := qs.map sL) hl hi (by decide +kernel) (by rw [sum_sL, List.length_map]; omega) fun t' k => ?_
  have e : Txt.join (Str.ofString "...") (qs.map sL) = sL (joinL qs) := by rw [eq_of_beq (join_plain_closes _ _), dots_is, join_is]
  rw [e]
  exact h t' k
theorem in_bools {α : Type} {H : Addr} {f : α → Bool} {l : List α} {Q : Value → Shared → Prop} (hl : s.heap.IsList H (l.map fun k => Value.bool (f k)).toArray) (h : Q (.bool (l.any f)) s) : wpAny (model prog w) A (compareOp .In (.bool true) (.ref H)) Q E s := by
  refine SeqAt.in_listAt (fun y => match y with | .bool b => b | _ => false) hl (fun y hy => ?_) ?_
  · obtain ⟨k, _, rfl⟩ := List.mem_map.mp (by simpa using hy)
    have e := SeqAt.EqAt.bool_bool (A := A.in1) (s := s) (f k) true
    simpa using e
  · have e : ((l.map fun k => Value.bool (f k)).toArray.any fun y => match y with | .bool b => b | _ => false) = l.any f := by
      rw [List.any_toArray, List.any_map]
      rfl
    rw [e]; exact h
end
theorem any_is {cs : List (Int × Int)} {ps : List (List (Int × Int))} {b b' : Bool} {sh : List (List Int)} {f : List Int → Bool} (hc : ∀ c ∈ cs, ColOk c) (ho : Okp ps) (hsh : sh = sharesL ((cs.length : Int) - sumL ps) (ps.length - 1)) (hf : f = fun ks => strB cs (fillG fillC ps ks))
    (h : b' = true ↔ MatchL (ps.map (rd b)) (rd b cs)) : (b' != sh.any f) = false := by
  subst hsh hf
  rw [law_c hc ho] at h
  have e : b' = (sharesL ((cs.length : Int) - sumL ps) (ps.length - 1)).any fun ks => strB cs (fillG fillC ps ks) := by
    rw [Bool.eq_iff_iff, h, List.any_eq_true]
  rw [← e]; simp
theorem told_is {cs : List (Int × Int)} {ps : List (List (Int × Int))} {ks : List Int} {v : Int} (hc : ∀ c ∈ cs, ColOk c) (ho : Okp ps) (hk : ks ∈ sharesL ((cs.length : Int) - sumL ps) (ps.length - 1))
    (hv : LevOk (rd true cs) (fillG 35 (ps.map (rd true)) ks) (2 * ((cs.length : Int) - sumL ps)) v) :
    2 * ((cs.length : Int) - sumL ps) ≤ v ∧ ((v == 2 * ((cs.length : Int) - sumL ps)) != strB cs (fillG fillC ps ks)) = false := by
  obtain ⟨h1, h2⟩ := law_b hc ho hk hv
  refine ⟨h1, ?_⟩
  have e : (v == 2 * ((cs.length : Int) - sumL ps)) = strB cs (fillG fillC ps ks) := by
    rw [Bool.eq_iff_iff, ← h2]
    simp
  rw [e]; simp
theorem no_dots {b : Bool} {ps : List (List (Int × Int))} (ho : Okp ps) : ∀ q ∈ ps.map (rd b), 46 ∉ q := by
  intro q hq h46
  obtain ⟨p, hp, rfl⟩ := List.mem_map.mp hq
  obtain ⟨c, hc, e⟩ := List.mem_map.mp h46
  have := code_mem (b := b) (ho.2.2 p hp c hc)
  rw [e] at this
  revert this
  decide
theorem sum_rd {b : Bool} (ps : List (List (Int × Int))) : ((ps.map (rd b)).map List.length).sum = (ps.map List.length).sum := by
  rw [List.map_map]
  refine congrArg List.sum (List.map_congr_left fun p _ => ?_)
  show (rd b p).length = _
  unfold rd
  rw [List.length_map]
theorem ell_pre {b : Bool} {cs : List (Int × Int)} {ps : List (List (Int × Int))} (ho : Okp ps) (hs : (ps.map List.length).sum ≤ 60) (hn : cs.length ≤ 5) :
    1 ≤ (ps.map (rd b)).length ∧ (ps.map (rd b)).length ≤ 3 ∧ (∀ q ∈ ps.map (rd b), 46 ∉ q) ∧ ((ps.map (rd b)).map List.length).sum ≤ 60 ∧ (rd b cs).length ≤ 100 :=
  ⟨by rw [List.length_map]; exact ho.1, by rw [List.length_map]; exact ho.2.1, no_dots ho, by rw [sum_rd]; exact hs, Nat.le_trans (rd_len hn) (by decide)⟩
theorem pre80 {w : World} {h₀ h : Heap} {L : Addr} {m : Str → Option Value} {K all : List (Addr × Obj)} {mean : ExcName → Option Value} {mg mb : Str → Option Value} {qs : List (List Nat)} {ks : List Int} {vp vk : Value} (htx : TxtsIn K qs vp) (hsh : ShIn K ks vk) (hf : Fits qs ks) (F : Fr h₀ L h m) (N : News h₀ L h all) (X : (hd.heap_39 w.params).In h₀) (T : Top hd.view_39 (looseW hd.view_39 []) mean mg mb h₀)
    (hs : ∀ p ∈ K, p ∈ all) : ∃ all, Has all h ∧ TxtsIn all qs vp ∧ ShIn all ks vk ∧ Fits qs ks :=
  ⟨all, has_of N, let ⟨a, b, c⟩ := htx; ⟨a, b.mono hs, c⟩, hsh.mono hs, hf⟩
end Mine
end
section
open PySem PySem.W PyProof.Rows PySem.Calls
set_option Elab.async false
set_option maxRecDepth 100000
set_option maxHeartbeats 8000000
namespace Mine
theorem off_Law : True := by
  w_top off
  trivial
local macro_rules | `(tactic| k_mem) => `(tactic| assumption)
theorem lawT : PySem.Challenge.rw_pe0158_01.Holds := hd (by
  k_with_none
  k_with "execs cons" => ((try k_fold); refine exe_cons ?_; intro q9)
  k_with "SeqC" => (first | refine seqC_next ?_ | refine seqC_ret ?_)
  k_with "storeName" => (k_here; k_dflt (refine store_T (s₀ := s₁) (by k_asm) (by k_asm) ?_ (by rfl) (by rfl)); k_whole; intro hK9 tkK9 mK9 FK9 NK9; (try k_sweep))
  k_with "storeName" => (k_here; (with_reducible show wpAny _ _ (storeName _ _ (Value.str _ _)) _ _ _); k_dflt (refine store_S (s₀ := s₁) (by k_asm) (by k_asm) ?_ (by rfl) (by rfl)); k_whole; intro hK9 tkK9 tK9 mK9 FK9 NK9; (try k_sweep))
  k_with "storeName" => (k_here; (with_reducible show wpAny _ _ (storeName _ _ (Value.int _ _)) _ _ _); k_dflt (refine store_I (s₀ := s₁) (by k_asm) (by k_asm) ?_ (by rfl) (by rfl)); k_whole; intro hK9 tkK9 tK9 mK9 FK9 NK9; (try k_sweep))
  k_with "eval Name" => (k_here; k_dflt (refine name_L (by k_asm) (by exact rfl) ?_ (by rfl) (by rfl) (by decide)); k_whole)
  k_with "call ref" => ((k_here; (with_reducible show wpAny _ _ (call (Value.ref 49) _) _ _ _); k_dflt (refine call_S (s₀ := s₁) (t_lev _ _ _ _ _ _ _) (by k_asm) (by k_asm) (by k_asm) (by k_asm) (by k_asm) (by exact rfl) (by exact rfl) (by exact rfl) (by (dsimp only [callerA]; decide)) (by (dsimp only [callerA]; decide)) (by exact ⟨by assumption, by assumption⟩) ?_; k_whole); intro rK9 hK9 tkK9 FK9 NK9 poK9; obtain ⟨vK9, tK9, heK9, hvK9⟩ := poK9; subst heK9; (try k_sweep)))
  k_with "call ref" => ((k_here; (with_reducible show wpAny _ _ (call (Value.ref 87) _) _ _ _); k_dflt (refine call_S (s₀ := s₁) (t_tableR _ _ _ _ _) (by k_asm) (by k_asm) (by k_asm) (by k_asm) (by k_asm) (by exact rfl) (by exact rfl) (by exact rfl) (by (dsimp only [callerA]; decide)) (by (dsimp only [callerA]; decide)) (by exact ⟨by walk_at "ROWAT", by walk_at "ROWAT", by omega, by omega⟩) ?_; k_whole); intro rK9 hK9 tkK9 FK9 NK9 poK9; obtain ⟨tK9, heK9⟩ := poK9; subst heK9; (try k_sweep)))
  k_with "exec Assign cons ListComp" => ((k_here; (with_reducible show wpAny _ _ (exec (Stmt.Assign _ (Expr.ListComp (Expr.Tuple _ _ _) _ _ _) _) _) _ _ _); refine stop_ ?_))
  k_with "CompSrc" => (((rename FlagSrc => fsrcK9); refine stop_ ?_))
  k_with "KSUB" => ((intro pK9 hpK9; (repeat (first | exact hpK9 | refine List.Mem.tail _ ?_))))
  k_with "ROWAT" => ((refine rowAt_of (by assumption) (by k_asm) (by walk_at "KSUB")))
  k_with "PRE56" => ((refine ⟨(by walk_at "ROWAT"), (by assumption), (by omega)⟩))
  k_with "call ref" => ((k_here; (with_reducible show wpAny _ _ (call (Value.ref 56) _) _ _ _); k_dflt (refine call_S (s₀ := s₁) (t_readR _ _ _ _) (by k_asm) (by k_asm) (by k_asm) (by k_asm) (by k_asm) (by exact rfl) (by exact rfl) (by exact rfl) (by (dsimp only [callerA]; decide)) (by (dsimp only [callerA]; decide)) (by walk_at "PRE56") ?_; k_whole); intro rK9 hK9 tkK9 FK9 NK9 poK9; obtain ⟨tK9, heK9⟩ := poK9; subst heK9; (try k_sweep)))
  k_with "call ref" => ((k_here; (with_reducible show wpAny _ _ (call (Value.ref 61) _) _ _ _); k_dflt (refine call_S (s₀ := s₁) (t_namedR _ _ _ _) (by k_asm) (by k_asm) (by k_asm) (by k_asm) (by k_asm) (by exact rfl) (by exact rfl) (by exact rfl) (by (dsimp only [callerA]; decide)) (by (dsimp only [callerA]; decide)) (by walk_at "PRE56") ?_; k_whole); intro rK9 hK9 tkK9 FK9 NK9 poK9; obtain ⟨tK9, heK9⟩ := poK9; subst heK9; (try k_sweep)))
  k_with "exec For" => (refine stop_ ?_)
  k_with "exec For Name Call cons nil" => (refine stop_ ?_)
  k_with "call ref" => (((with_reducible show wpAny _ _ (call (Value.ref 68) _) _ _ _); refine stop_ ?_))
  k_with "call ref" => (((with_reducible show wpAny _ _ (call (Value.ref 73) _) _ _ _); refine stop_ ?_))
  k_with "call ref" => (((with_reducible show wpAny _ _ (call (Value.ref 80) _) _ _ _); refine stop_ ?_))
  k_with "compareOp NotEq str str" => ((with_reducible refine ne_same ?_))
  k_with "exec Assign cons ListComp" => ((k_here; (with_reducible show wpAny _ _ (exec (Stmt.Assign _ (Expr.ListComp (Expr.Call _ _ _ _) _ _ _) _) _) _ _ _); refine stop_ ?_))
  k_with "eval ListComp" => (refine stop_ ?_)
  k_with "call builtin:len" => ((k_here; (with_reducible show wpAny _ _ (call (Value.builtin "len") [Value.ref _]) _ _ _); k_dflt (refine' len_n (News.isList (by k_asm) (by k_mem)) (by assumption) (by omega) ?_); (try dsimp only)))
  k_with "storeName" => (((with_reducible show wpAny _ _ (storeName _ (Str.ofString "row") _) _ _ _); refine stop_ ?_))
  k_with "TUPOF" => ((refine tup_of (by k_asm) (by k_mem) (by assumption) (by assumption)))
  k_with "UNITS" => ((have hcL' := cLine_is; simp only [A9, units_in1, units_deeper, Around.mark_units, units_caller]; omega))
  k_with "compareOp NotEq ref ref" => ((k_here; k_dflt (refine ne_tup (by walk_at "TUPOF") (by walk_at "TUPOF") (by walk_at "UNITS") ?_); (try dsimp only)))
  k_with "compareOp Eq ref ref" => ((k_here; k_dflt (refine eq_nil (by kmk_list) (by kmk_list) (by walk_at "UNITS") (by assumption) ?_); (try dsimp only)))
  k_with "subscriptTail Name Name ref int" => ((k_here; (with_reducible show wpAny _ _ (subscriptTail _ _ (Value.ref _) (Value.int _ _)) _ _ _); k_dflt (refine item_n (by kmk_list) (by exact rfl) (by omega) (by assumption) ?_ (by intro _; with_unfolding_all rfl)); (try dsimp only)))
  k_with "subscriptTail Subscript" => ((k_here; (with_reducible show wpAny _ _ (subscriptTail _ _ (Value.ref _) (Value.int _ _)) _ _ _); k_dflt (refine item_t0 (by walk_at "TUPOF") ?_ (by intro _; with_unfolding_all rfl)); (try dsimp only)))
  k_with "CompSrcT" => (((rename FlagSrc => fsrcK9); refine stop_ ?_))
  k_with "eval Name" => ((k_here; (with_reducible show wpAny _ _ (eval (Expr.Name (Str.ofString "row") _) (compEnvC _ _ _ _)) _ _ _); k_dflt (refine lcf_cell (by k_asm) (by rfl) (by k_mem) (by k_asm) ?_ (by rfl) (by rfl); k_whole)))
  k_with "eval Name" => ((k_here; (with_reducible show wpAny _ _ (eval (Expr.Name (Str.ofString "strip") _) (compEnvC _ _ _ _)) _ _ _); k_dflt (refine lcf_cell (by k_asm) (by rfl) (by k_mem) (by k_asm) ?_ (by rfl) (by rfl); k_whole)))
  k_with "PRE80" => ((refine pre80 (by assumption) (by assumption) (by assumption) (by k_asm) (by k_asm) (by k_asm) (by k_asm) (by walk_at "KSUB")))
  k_with "call ref" => ((k_here; (with_reducible show wpAny _ _ (call (Value.ref 80) [_, _, Value.str _ _]) _ _ _); k_dflt (refine call_S (s₀ := s₁) (t_fillT _ _ _ _ _ _) (by k_asm) (by k_asm) (by k_asm) (by k_asm) (by k_asm) (by exact rfl) (by exact rfl) (by exact rfl) (by (dsimp only [callerA]; decide)) (by (dsimp only [callerA]; decide)) (by walk_at "PRE80") ?_; k_whole); intro rK9 hK9 tkK9 FK9 NK9 poK9; obtain ⟨tK9, heK9⟩ := poK9; subst heK9; (try k_sweep)))
  k_with "call builtin:list.append" => (refine stop_ ?_)
  k_with "call builtin:str.join" => ((k_here; (with_reducible show wpAny _ _ (call (Value.builtin "str.join") [Value.str _ _, Value.ref _]) _ _ _); k_dflt (refine join_txt (by kmk_list) (by assumption) (by (rw [sum_rd]; assumption)) (by (rw [List.length_map]; assumption)) ?_); intro tK9 kK9; (try dsimp only)))
  k_with "compareOp In bool ref" => ((k_here; k_dflt (refine in_bools (by kmk_list) ?_); (try dsimp only)))
  k_with "call ref" => ((k_here; (with_reducible show wpAny _ _ (call (Value.ref 21) _) _ _ _); k_dflt (refine call_S (s₀ := s₁) (t_ell _ _ _ _ _ _ (by exact rfl)) (by k_asm) (by k_asm) (by k_asm) (by k_asm) (by k_asm) (by exact rfl) (by exact rfl) (by exact rfl) (by (dsimp only [callerA]; decide)) (by (dsimp only [callerA]; decide)) (by assumption) ?_; k_whole); intro rK9 hK9 tkK9 FK9 NK9 poK9; obtain ⟨bK9, heK9, hbK9⟩ := poK9; subst heK9; (try k_sweep)))
  k_go0
  rename Fr _ _ _ _ => F0
  rename (¬ _ < _) => hn9
  rename IntsAre _ _ => hI9
  refine' enter_good F0 ?_ ?_
  · rename CellsAre _ _ _ => Y0
    rename News _ _ _ _ => N0
    clear Y0
    rename_i w s₀ s₁ mg mb G Y fa o pm doc ho hg KX X V GL T B TE TW wa wo M0 wb wc hcd ns _ _ _ _ _ _ _ l vs _ hl ra w1 r0 hr1 hc1 K0 hD h₁ tk₁ oR oS oT hR0 hS0 hT0
    have K9 : Below callerA s₁.heap [] s₁.heap := K0
    clear K0 hD G Y ho hg X V GL B TE TW M0 hcd ra w1 r0 hr1
    have hR : oR.data = .cell none := hR0
    have hS : oS.data = .cell none := hS0
    have hT : oT.data = .cell none := hT0
    clear hR0 hS0 hT0
    refine let_exec ?_
    intro M9 env9 A9 T9
    k_steps
    unfold Stop
    rename (Obj.data _ = Data.cell (some _)) => hT1
    rename IntsAre _ (List.map _ _) => hI8
    obtain ⟨hm1, hm2⟩ := marks_ok ns
    generalize List.map (fun (k' : Int) => k'.fmod (10 ^ Int.toNat 6)) (List.take 4 ns) = mk at hm1 hm2 hI8 hT1
    have ht0 := Int.fmod_nonneg_of_pos mk.sum (show (0 : Int) < 16 by decide)
    have ht1 := Int.fmod_lt_of_pos mk.sum (show (0 : Int) < 16 by decide)
    generalize mk.sum.fmod 16 = turn at hT1 ht0 ht1
    refine cut (P := Mid s₁.heap s₁.heap.objs.size s₁ (StA s₁.heap.objs.size mk (([1, 5] ++ List.take 3 mk).map (colT turn)))) ?_ ?_
    · refine wpAny_Assign_Name ?_
      have fsrc : FlagSrc := trivial
      refine LCg.ListComp_U (F₀ := by k_asm) (by with_unfolding_all rfl) (by decide) (by rfl) (by decide) (by rfl) ?_
      k_steps
      unfold Stop
      rename FlagSrc => fz
      clear fz
      rename News _ _ _ _ => N1
      rename Fr _ _ _ _ => F1
      rename (IntsAre _ ([1, 5] ++ _)) => hI7
      have hl7 := hI7.length
      have hl8 : ([1, 5] ++ List.take 3 mk).length ≤ 5 := by rw [List.length_append, List.length_take]; simp; omega
      refine LCg.CompSrc.ledger rfl F1 (pick5 N1) (.head _) (by rw [List.size_toArray, hl7, sizeLine_eq]; omega) ?_
      intro g
      refine restV (news := [_, _, _, _, _]) (R := fun i o => ∃ x, ([1, 5] ++ List.take 3 mk)[i]? = some x ∧ Tup (colT turn x) o) (fun ex => .inr ⟨_, .head _, rfl, _, rfl⟩) ?_ ?_ _ 0 [] [] (Nat.zero_add _) rfl (fun i y e => by simp at e) (fun _ _ _ h => nomatch h)
      · intro i v hP hi ys ex I oI C oC D m₂ h tk hC hx F N
        obtain ⟨x, t, hxi, rfl⟩ := ints_at hI7 (by simpa using hP)
        clear N1 F1
        (try dsimp only)
        (try k_fold)
        k_steps
        all_goals (try dsimp only)
        rename (_ ∧ _ ∧ _ ∧ AllLt _ _) => l9
        exact eltN_ (by assumption) (by assumption) l9 ⟨x, hxi, _, _, _, rfl, rfl⟩
      · intro ys ex hyl hM hlt
        unfold LCg.FinE
        intro D h tk F N off
        clear N1 F1
        refine store_strip F N off hlt rfl (neN (by (try dsimp only); omega)) (neN (by (try dsimp only); omega)) hS (fun h' o' F' N' ho => ?_)
        exact stA_ F' N' (hyl.trans (by rw [List.size_toArray, hl7]; rfl)) hM rfl rfl (Ne.symm off.2.2.1) (neN (by (try dsimp only); omega)) (fun p hp => hlt _ (.tail _ (.tail _ (.head _))) p hp) hR ho hI8 rfl
    · have hok : ∀ c ∈ ([1, 5] ++ List.take 3 mk).map (colT turn), ColOk c := fun c hc => by
        obtain ⟨x, _, rfl⟩ := List.mem_map.mp hc
        exact colT_ok turn x
      have hln : (([1, 5] ++ List.take 3 mk).map (colT turn)).length ≤ 5 := by rw [List.length_map, List.length_append, List.length_take]; simp; omega
      generalize ([1, 5] ++ List.take 3 mk).map (colT turn) = cs at hok hln
      rintro f s' ⟨rfl, h, tk, m, news, rfl, F2, N2, K, oR2, oS2, st, M, zs, n, rfl, hK, ⟨cR, hR2⟩, hSm, hS2, hrow, hMm, hIM, hmM⟩
      clear hR hS hT hT1 hI8 ht0 ht1 hl hI9 hn9
      have F3 := fr_over [(Str.ofString "marks", .ref M)] F2 (by simp [hmM])
      simp only [over] at F3
      clear F2
      (try dsimp only)
      (try k_fold)
      k_steps
      unfold Stop
      refine for_open ?_
      k_steps
      rename News _ _ _ _ => N4
      rename Fr _ _ _ _ => F4
      rename (IntsAre _ ([39] ++ _)) => hI7
      rename_i P ps9 _ l9
      have hpk : ∀ x ∈ ([39] ++ List.drop 3 mk : List Int), 0 ≤ x ∧ x ≤ 1000000 := by
        intro x hx
        rcases List.mem_append.mp hx with hx | hx
        · rw [List.mem_singleton.mp hx]; decide
        · have := hm1 x (List.mem_of_mem_drop hx); omega
      refine for_at (L := s₁.heap.objs.size) (vs := ps9) (nn := 0) (J := fun _ m' news' => JO (s₁.heap.objs.size + 1 + 1 + 1) ((P, W.listOf ps9.toArray 0) :: K) cs m' news') rfl rfl (fun _ m' news' hJ => ?_) F4 (pick3 N4) ?_ ?_ ?_
      · obtain ⟨oR, rfl, _⟩ := hJ
        exact .tail _ (.head _)
      · exact ⟨oR2, rfl, ⟨cR, hR2⟩, ⟨_, rfl⟩, ⟨_, rfl⟩⟩
      · intro I i v m₁ news₁ h₂ tk₂ o hv hJ hne F5 N5
        obtain ⟨oR, rfl, ⟨c9, hR⟩, ⟨tt, hmt⟩, ⟨tn, hmn⟩⟩ := hJ
        obtain ⟨pk, tp, hpi, rfl⟩ := ints_at hI7 hv
        obtain ⟨hp0, hp1⟩ := hpk pk (List.mem_of_getElem? hpi)
        have F6 := fr_over [(Str.ofString "text", .str (sL (rd false cs)) tt), (Str.ofString "negative", .str (sL (rd true cs)) tn)] F5 (by simp [hmt, hmn])
        simp only [over] at F6
        have N6 := swap2 N5
        obtain ⟨K2, hK2⟩ : ∃ K2, K2 = (I, o) :: (P, W.listOf ps9.toArray 0) :: K := ⟨_, rfl⟩
        rw [← hK2] at N6
        have hKR : ∀ p ∈ K2, p.1 ≠ s₁.heap.objs.size + 1 + 1 + 1 := by
          intro p hp
          rw [hK2] at hp
          simp only [List.mem_cons] at hp
          rcases hp with rfl | rfl | hp
          · exact Ne.symm (hne _ (.head _))
          · exact Ne.symm (Nat.ne_of_lt l9.2.2.1)
          · exact hK p hp
        have hrow2 : RowIn K2 cs (.ref st) := hrow.mono fun p hp => by rw [hK2]; exact .tail _ (.tail _ hp)
        have hSm2 : (s₁.heap.objs.size + 1 + 1, oS2) ∈ K2 := by rw [hK2]; exact .tail _ (.tail _ hSm)
        have hown : (I, o) ∈ K2 := by rw [hK2]; exact .head _
        have hsubK : ∀ p ∈ (P, W.listOf ps9.toArray 0) :: K, p ∈ K2 := fun p hp => by rw [hK2]; exact .tail _ hp
        clear hK2 F4 N4 F5 N5 hrow hSm hK
        k_steps
        unfold Stop
        refine call_pieces (by k_asm) (by k_asm) (by k_asm) (by k_asm) (by k_asm) hKR hrow2 hok (by omega) hp0 hp1 rfl rfl rfl (by dsimp only [callerA]; decide) (by dsimp only [callerA]; decide) ?_
        intro r h3 tk3 K3 ps F7 N7 hKR3 hsub3 hparts hokp hsum
        obtain ⟨pvs, ⟨pa, np, rfl, hpm⟩, hpi⟩ := hparts
        have hrow3 : RowIn K3 cs (.ref st) := hrow2.mono hsub3
        have hSm3 := hsub3 _ hSm2
        obtain ⟨sws, ⟨_, sn, e, hstm⟩, hsti⟩ := id hrow3
        cases e
        have hstn := hsti.1
        clear hKR hrow2 hSm2
        have hplen : ∀ p ∈ ps, p.length ≤ 60 := fun p hp => Nat.le_trans (len_sum hp) hsum
        have hp3 := hokp.2.1
        have hpvl := hpi.1
        (try dsimp only)
        (try k_fold)
        k_steps
        unfold Stop
        have fsrc : FlagSrc := trivial
        refine LCg.Assign_ListComp_U (F₀ := by k_asm) (by rfl) (by with_unfolding_all rfl) (by with_unfolding_all rfl) (by decide) (by rfl) (by decide) (by rfl) (by rfl) (by rfl) ?_
        k_steps
        unfold Stop
        rename FlagSrc => fz
        clear fz
        rename News _ _ _ _ => N8
        rename Fr _ _ _ _ => F8
        refine LCg.CompSrc.ledger rfl F8 N8 (.tail _ hpm) (by rw [List.size_toArray, hpvl, sizeLine_eq]; omega) ?_
        intro g
        refine restS (R := fun i y => ∃ p t, ps[i]? = some p ∧ y = .str (sL (rd false p)) t) (.inr ⟨_, .tail _ hpm, rfl, _, rfl⟩) ?_ ?_ _ 0 [] (Nat.zero_add _) rfl (fun i y e => by simp at e)
        · intro i v hP hi ys I' oI C oC D m₂ h tk hC hx F N
          obtain ⟨p, hpp, hrowp⟩ := hpi.2 i v (by simpa using hP)
          have hpok := hokp.2.2 p (List.mem_of_getElem? hpp)
          have hpl := hplen p (List.mem_of_getElem? hpp)
          clear N8 F8
          (try dsimp only)
          (try k_fold)
          k_steps
          all_goals (try dsimp only)
          exact eltS_ (by assumption) (by assumption) ⟨p, _, hpp, rfl⟩
        · intro ys hyl hys
          unfold LCg.FinA
          intro D h tk F N off
          obtain ⟨K4, N9, hKR4, hsub4, hDm⟩ := grow N hKR3 (Ne.symm off.1)
          have htx1 : TxtsIn K4 (ps.map (rd false)) (.ref D) := ⟨ys, ⟨D, _, rfl, hDm⟩, txts_of (by rw [hyl, List.size_toArray, hpvl]) hys⟩
          have hpm4 := hsub4 _ hpm
          have hpi4 := ItemsAre.imp hpi fun _ _ y => y.mono hsub4
          have hrow4 := hrow3.mono hsub4
          have hSm4 := hsub4 _ hSm3
          have hstm4 := hsub4 _ hstm
          clear N8 F8 N hKR3 hpi hpm hrow3 hSm3 hstm
          (try dsimp only)
          (try k_fold)
          k_steps
          unfold Stop
          have fsrc : FlagSrc := trivial
          refine LCg.Assign_ListComp_U (F₀ := by k_asm) (by rfl) (by with_unfolding_all rfl) (by with_unfolding_all rfl) (by decide) (by rfl) (by decide) (by rfl) (by rfl) (by rfl) ?_
          k_steps
          unfold Stop
          rename FlagSrc => fz
          clear fz
          rename News _ _ _ _ => N8
          rename Fr _ _ _ _ => F8
          refine LCg.CompSrc.ledger rfl F8 N8 (.tail _ hpm4) (by rw [List.size_toArray, hpvl, sizeLine_eq]; omega) ?_
          intro g
          refine restS (R := fun i y => ∃ p t, ps[i]? = some p ∧ y = .str (sL (rd true p)) t) (.inr ⟨_, .tail _ hpm4, rfl, _, rfl⟩) ?_ ?_ _ 0 [] (Nat.zero_add _) rfl (fun i y e => by simp at e)
          · intro i v hP hi ys I' oI C oC D m₂ h tk hC hx F N
            obtain ⟨p, hpp, hrowp⟩ := hpi4.2 i v (by simpa using hP)
            have hpok := hokp.2.2 p (List.mem_of_getElem? hpp)
            have hpl := hplen p (List.mem_of_getElem? hpp)
            clear N8 F8
            (try dsimp only)
            (try k_fold)
            k_steps
            all_goals (try dsimp only)
            exact eltS_ (by assumption) (by assumption) ⟨p, _, hpp, rfl⟩
          · intro ys2 hyl2 hys2
            unfold LCg.FinA
            intro D2 h tk F N off
            obtain ⟨K5, N9, hKR5, hsub5, hDm2⟩ := grow N hKR4 (Ne.symm off.1)
            have htx2 : TxtsIn K5 (ps.map (rd true)) (.ref D2) := ⟨ys2, ⟨D2, _, rfl, hDm2⟩, txts_of (by rw [hyl2, List.size_toArray, hpvl]) hys2⟩
            have htx1' : TxtsIn K5 (ps.map (rd false)) (.ref D) := let ⟨a, b, c⟩ := htx1; ⟨a, b.mono hsub5, c⟩
            have hpm5 := hsub5 _ hpm4
            have hpi5 := ItemsAre.imp hpi4 fun _ _ y => y.mono hsub5
            have hrow5 := hrow4.mono hsub5
            have hSm5 := hsub5 _ hSm4
            have hstm5 := hsub5 _ hstm4
            clear N8 F8 N hKR4 hpi4 hpm4 hrow4 hSm4 hstm4 htx1
            (try dsimp only)
            (try k_fold)
            k_steps
            unfold Stop
            have fsrc : FlagSrc := trivial
            refine LCg.ListComp_U (F₀ := by k_asm) (by with_unfolding_all rfl) (by decide) (by rfl) (by decide) (by rfl) ?_
            k_steps
            unfold Stop
            rename FlagSrc => fz
            clear fz
            rename News _ _ _ _ => N8
            rename Fr _ _ _ _ => F8
            refine LCg.CompSrc.ledger rfl F8 N8 (.tail _ hpm5) (by rw [List.size_toArray, hpvl, sizeLine_eq]; omega) ?_
            intro g
            refine restS (R := fun i y => ∃ p t, ps[i]? = some p ∧ y = .int (p.length : Int) t) (.inr ⟨_, .tail _ hpm5, rfl, _, rfl⟩) ?_ ?_ _ 0 [] (Nat.zero_add _) rfl (fun i y e => by simp at e)
            · intro i v hP hi ys I' oI C oC D m₂ h tk hC hx F N
              obtain ⟨p, hpp, ws, ⟨_, wn, rfl, hwm⟩, hwi⟩ := hpi5.2 i v (by simpa using hP)
              have hwl := hwi.1
              have hpl := hplen p (List.mem_of_getElem? hpp)
              clear N8 F8
              (try dsimp only)
              (try k_fold)
              k_steps
              all_goals (try dsimp only)
              exact eltS_ (by assumption) (by assumption) ⟨p, _, hpp, rfl⟩
            · intro ys3 hyl3 hys3
              unfold LCg.FinE
              intro D3 h tk F N off
              have hI3 : IntsAre ys3 (ps.map fun p => (p.length : Int)) := ints_of (by rw [hyl3, List.size_toArray, hpvl]) hys3
              have hs3 : (ps.map fun p => (p.length : Int)).sum = sumL ps := sum_len ps
              have hs4 : sumL ps ≤ 60 := by unfold sumL; omega
              have hs5 : 0 ≤ sumL ps := by unfold sumL; omega
              clear N8 F8
              (try dsimp only)
              (try k_fold)
              k_steps
              unfold Stop
              refine for_open ?_
              k_steps
              unfold Stop
              rename_i H _ l9
              refine call_shares (n := ps.length - 1) (by k_asm) (by k_asm) (by k_asm) (by k_asm) (by k_asm) hKR5 l9.2.2 (by have := hokp.1; omega) (by omega) (by omega) (by omega) rfl rfl rfl (by dsimp only [callerA]; decide) (by dsimp only [callerA]; decide) ?_
              intro r h6 tk6 K6 svs F10 N10 hKR6 hKH6 hsub6 hsh hshi
              obtain ⟨sl, snn, rfl, hslm⟩ := hsh
              have hHR : H ≠ s₁.heap.objs.size + 1 + 1 + 1 := Ne.symm (Nat.ne_of_lt l9.2.1)
              have htx16 : TxtsIn K6 (ps.map (rd false)) (.ref D) := let ⟨a, b, c⟩ := htx1'; ⟨a, b.mono hsub6, c⟩
              have htx26 : TxtsIn K6 (ps.map (rd true)) (.ref D2) := let ⟨a, b, c⟩ := htx2; ⟨a, b.mono hsub6, c⟩
              have hpm6 := hsub6 _ hpm5
              have hpi6 := ItemsAre.imp hpi5 fun _ _ y => y.mono hsub6
              have hrow6 := hrow5.mono hsub6
              have hSm6 := hsub6 _ hSm5
              have hstm6 := hsub6 _ hstm5
              simp only [hs3] at F10 hshi
              refine for_at (L := s₁.heap.objs.size) (vs := svs) (nn := snn) (J := JI H (s₁.heap.objs.size + 1 + 1 + 1) K6 cs ps pa D D2) rfl rfl (fun _ m' news' hJ => ?_) F10 N10 ?_ ?_ ?_
              · obtain ⟨oR, n, rfl, _⟩ := hJ
                exact .tail _ (.tail _ hslm)
              · exact ⟨oR, 0, rfl, ⟨_, hR⟩, ⟨_, rfl⟩, ⟨_, rfl⟩, rfl, rfl, rfl, ⟨_, congrArg (fun z => some (Value.int ((cs.length : Int) - z) _)) hs3⟩, rfl⟩
              · intro I2 i2 v2 m₂ news₂ h7 tk7 o2 hv2 hJ hne2 F11 N11
                obtain ⟨oR, nh, rfl, ⟨c9, hR⟩, ⟨tt, hmt⟩, ⟨tn, hmn⟩, hmp, hmpl, hmtu, ⟨tf, hmf⟩, hmh⟩ := hJ
                obtain ⟨ks, hks, hshk⟩ := hshi.2 i2 v2 hv2
                have F12 := fr_over [(Str.ofString "text", .str (sL (rd false cs)) tt), (Str.ofString "negative", .str (sL (rd true cs)) tn), (Str.ofString "pieces", .ref pa), (Str.ofString "plain", .ref D), (Str.ofString "turned", .ref D2), (Str.ofString "free", .int ((cs.length : Int) - sumL ps) tf), (Str.ofString "hits", .ref H)] F11 (by simp [hmt, hmn, hmp, hmpl, hmtu, hmf, hmh])
                simp only [over] at F12
                obtain ⟨K7, hK7⟩ : ∃ K7, K7 = (I2, o2) :: K6 := ⟨_, rfl⟩
                have N12 : News s₁.heap s₁.heap.objs.size h7 ((H, W.listOf (((sharesL ((cs.length : Int) - sumL ps) (ps.length - 1)).take i2).map fun ks => Value.bool (strB cs (fillG fillC ps ks))).toArray nh) :: (s₁.heap.objs.size + 1 + 1 + 1, oR) :: K7) := by rw [hK7]; exact rot3 N11
                have hsub7 : ∀ p ∈ K6, p ∈ K7 := fun p hp => by rw [hK7]; exact .tail _ hp
                have hown2 : (I2, o2) ∈ K7 := by rw [hK7]; exact .head _
                have hKR7 : ∀ p ∈ K7, p.1 ≠ s₁.heap.objs.size + 1 + 1 + 1 := by
                  intro p hp
                  rw [hK7] at hp
                  rcases List.mem_cons.mp hp with rfl | hp
                  · exact Ne.symm (hne2 _ (.tail _ (.head _)))
                  · exact hKR6 p hp
                have hKH7 : ∀ p ∈ K7, p.1 ≠ H := by
                  intro p hp
                  rw [hK7] at hp
                  rcases List.mem_cons.mp hp with rfl | hp
                  · exact Ne.symm (hne2 _ (.head _))
                  · exact hKH6 p hp
                have htx17 : TxtsIn K7 (ps.map (rd false)) (.ref D) := let ⟨a, b, c⟩ := htx16; ⟨a, b.mono hsub7, c⟩
                have htx27 : TxtsIn K7 (ps.map (rd true)) (.ref D2) := let ⟨a, b, c⟩ := htx26; ⟨a, b.mono hsub7, c⟩
                have hpm7 := hsub7 _ hpm6
                have hpi7 := ItemsAre.imp hpi6 fun _ _ y => y.mono hsub7
                have hparts7 : PartsIn K7 ps (.ref pa) := ⟨pvs, ⟨pa, np, rfl, hpm7⟩, hpi7⟩
                have hrow7 := hrow6.mono hsub7
                have hSm7 := hsub7 _ hSm6
                have hstm7 := hsub7 _ hstm6
                have hshk7 := hshk.mono hsub7
                clear F10 N10 F11 N11 hK7 htx16 htx26 hpm6 hpi6 hrow6 hSm6 hstm6 hshk htx1' htx2 hpm5 hpi5 hrow5 hSm5 hstm5 
                have hks' := List.mem_of_getElem? hks
                have hfit := fits_of hokp hplen hln hks'
                obtain ⟨hvs, hhv⟩ : ∃ hvs, hvs = ((sharesL ((cs.length : Int) - sumL ps) (ps.length - 1)).take i2).map fun ks => Value.bool (strB cs (fillG fillC ps ks)) := ⟨_, rfl⟩
                rw [← hhv] at N12
                k_steps
                unfold Stop
                rename (_ ∧ _ ∧ _ ∧ AllLt _ _) => l9c
                rename (_ ∧ _ ∧ AllLt _ _) => l9t
                refine call_row (by k_asm) (by k_asm) (by k_asm) (by k_asm) (by k_asm) hKR7 hKH7 hHR l9t.1 l9t.2.1 l9c.2.1 l9c.2.2.1 hparts7 hshk7 hfit rfl rfl rfl rfl (by dsimp only [callerA]; decide) (by dsimp only [callerA]; decide) ?_
                intro r h8 tk8 K8 F13 N13 hKR8 hKH8 hsub8 hrw8
                obtain ⟨rws, ⟨rw, rn, rfl, hrwm⟩, hrwi⟩ := hrw8
                (try dsimp only)
                (try k_fold)
                k_steps
                unfold Stop
                rename Fr _ _ _ _ => F14
                refine store_cell ((H, W.listOf hvs.toArray nh) :: K8) F14 N13 rfl (.head _) (fun p hp => .tail _ hp) (fun p hp => (List.mem_cons.mp hp).elim (fun e => e ▸ hHR) (hKR8 p)) hR ?_
                intro h9 oR9 F15 N15 hR9
                have htx18 : TxtsIn K8 (ps.map (rd false)) (.ref D) := let ⟨a, b, c⟩ := htx17; ⟨a, b.mono hsub8, c⟩
                have htx28 : TxtsIn K8 (ps.map (rd true)) (.ref D2) := let ⟨a, b, c⟩ := htx27; ⟨a, b.mono hsub8, c⟩
                have hrow8 := hrow7.mono hsub8
                have hSm8 := hsub8 _ hSm7
                have hstm8 := hsub8 _ hstm7
                have hshk8 := hshk7.mono hsub8
                have hrow9 : RowIn K8 (fillG fillC ps ks) (.ref rw) := ⟨rws, ⟨rw, rn, rfl, hrwm⟩, hrwi⟩
                obtain ⟨hrl, hrok, hrcnt⟩ := row_facts hokp hks'
                have hown8 := hsub8 _ hown2
                clear N13 F14 hR htx17 htx27 hrow7 hSm7 hstm7 hshk7 hpm7 hpi7 hparts7 hKR7 hKH7
                have hsti8 : ItemsAre (TIn K8) sws cs := ItemsAre.imp hsti fun _ _ y => y.mono fun p hp => hsub8 p (hsub7 p (hsub6 p (hsub5 p (hsub4 p hp))))
                have hrwl : rws.length = cs.length := hrwi.1.trans hrl
                (try dsimp only)
                (try k_fold)
                k_steps
                unfold Stop
                have fsrc : FlagSrc := trivial
                refine LCt.ListComp_T (F₀ := by k_asm) (by with_unfolding_all rfl) (by decide) (by rfl) (by decide) (by rfl) ?_
                k_steps
                unfold Stop
                rename FlagSrc => fz
                clear fz
                rename News _ _ _ _ => N16
                rename Fr _ _ _ _ => F16
                rename IsRange _ _ _ _ _ _ _ _ => hr16
                refine LCt.CompSrcT.range (n := cs.length) rfl F16 N16 hr16 (small_one (by omega) (by omega) (by omega) (by omega)) (range_sz _) (Nat.le_trans (Nat.le_of_lt_succ (Nat.lt_succ_of_le hln)) (by decide)) ?_
                intro g
                refine restT (c := badAt cs (fillG fillC ps ks)) trivial ?_ ?_ ?_ _ 0 [] [] (Nat.zero_add _) (Nat.le_refl _) .nil rfl
                · intro i v hP hi ys I' oI C oC D' m' h tk hC hx F N
                  obtain ⟨tv, rfl⟩ := hP
                  rw [Int.zero_add] at hx
                  obtain ⟨rv, hrv⟩ : ∃ v, rws[i]? = some v := ⟨_, List.getElem?_eq_getElem (by omega)⟩
                  obtain ⟨sv, hsv⟩ : ∃ v, sws[i]? = some v := ⟨_, List.getElem?_eq_getElem (by omega)⟩
                  obtain ⟨d, hdd, ra, ro, rno, rt, ru, rfl, hrm, hrc, hrd⟩ := hrwi.2 i rv hrv
                  obtain ⟨e, he, sa, so, sno, stk, su, rfl, hsm, hsc, hsd⟩ := hsti8.2 i sv hsv
                  clear N16 F16 hr16
                  (try dsimp only)
                  (try k_fold)
                  k_steps
                  all_goals (try dsimp only)
                  all_goals exact testS_ (by assumption) (by assumption) (by rw [bad_eq hdd he]; simp [*])
                · intro i v hP hi ys I' oI C oC D' m' h tk hC hx F N
                  obtain ⟨tv, rfl⟩ := hP
                  rw [Int.zero_add] at hx
                  clear N16 F16 hr16
                  (try dsimp only)
                  (try k_fold)
                  k_steps
                  all_goals (try dsimp only)
                  exact eltS_ (by assumption) (by assumption) ⟨_, rfl⟩
                · intro ys4 js hI4 hj4
                  unfold LCg.FinE
                  intro D4 h tk F N off
                  have hse : ys4.isEmpty = strB cs (fillG fillC ps ks) := str_empty hI4 hj4
                  have hfit1 : Fits (ps.map (rd false)) ks := fit_map hfit
                  have hfit2 : Fits (ps.map (rd true)) ks := fit_map hfit
                  have hfl1 := fill_len (b := false) hokp hks' hln
                  have hfl2 := fill_len (b := true) hokp hks' hln
                  have hrd1 : (rd false cs).length ≤ 40 := rd_len hln
                  have hrd2 : (rd true cs).length ≤ 40 := rd_len hln
                  clear N16 F16 hr16
                  have hA : ∀ v, LevOk (rd false cs) (fillG 35 (ps.map (rd false)) ks) 40 v → v = ed costC cs.reverse (fillG fillC ps ks).reverse := fun v hv => law_a hok (by omega) hokp hks' hv
                  have hB : ∀ v, LevOk (rd true cs) (fillG 35 (ps.map (rd true)) ks) (2 * ((cs.length : Int) - sumL ps)) v → 2 * ((cs.length : Int) - sumL ps) ≤ v ∧ ((v == 2 * ((cs.length : Int) - sumL ps)) != strB cs (fillG fillC ps ks)) = false := fun v hv => told_is hok hokp hks' hv
                  (try dsimp only)
                  (try k_fold)
                  k_steps
                  · exact absurd (hA _ (by assumption)) (by assumption)
                  · exfalso
                    rename LevOk (rd true cs) _ _ _ => hv9
                    have := (hB _ hv9).1
                    omega
                  · exact absurd ((hB _ (by assumption)).2.symm.trans (by assumption)) Bool.false_ne_true
                  · unfold Stop
                    rename News _ _ _ _ => N17
                    rename Fr _ _ _ _ => F17
                    have hvl : hvs.length ≤ 1000 := by
                      rw [hhv, List.length_map, List.length_take]
                      have := shares_len ((cs.length : Int) - sumL ps) (ps.length - 1) (by omega)
                      omega
                    refine append_keep ((s₁.heap.objs.size + 1 + 1 + 1, oR9) :: K8) F17 N17 (.tail _ (.tail _ (.tail _ (.head _)))) (fun p hp => ?_) (fun p hp => ?_) hvl ?_
                    · simp only [List.mem_cons] at hp ⊢
                      rcases hp with h | h <;> simp [h]
                    · rcases List.mem_cons.mp hp with rfl | hp
                      · exact Ne.symm hHR
                      · exact hKH8 p hp
                    · intro h18 F18 N18
                      clear F17 N17
                      (try dsimp only)
                      (try k_fold)
                      k_steps
                      refine Turn.drop (news' := (H, W.listOf (hvs ++ [Value.bool (strB cs (fillG fillC ps ks))]).toArray (nh + 1)) :: (s₁.heap.objs.size + 1 + 1 + 1, oR9) :: K6) F18 N18 (.tail _ (.tail _ hown8)) (fun p hp => ?_) (fun p hp => ?_) ⟨oR9, nh + 1, ?_, ⟨_, hR9⟩, ⟨_, rfl⟩, ⟨_, rfl⟩, rfl, rfl, rfl, ⟨_, rfl⟩, rfl⟩
                      · simp only [List.mem_cons] at hp ⊢
                        rcases hp with h | h | h
                        · exact .inl h
                        · exact .inr (.inl h)
                        · exact .inr (.inr (hsub8 _ (hsub7 _ h)))
                      · simp only [List.mem_cons] at hp
                        have q1 := hne2 _ (.head _)
                        have q2 := hne2 _ (.tail _ (.head _))
                        rcases hp with rfl | rfl | h
                        · exact q1
                        · exact q2
                        · exact hne2 _ (.tail _ (.tail _ h))
                      · rw [hhv, List.take_add_one, hks]
                        simp only [Option.toList_some, List.map_append, List.map_cons, List.map_nil]
              · intro m' news' h' tk' hJ F11 N11
                obtain ⟨oR, nh, rfl, ⟨c9, hR⟩, ⟨tt, hmt⟩, ⟨tn, hmn⟩, hmp, hmpl, hmtu, ⟨tf, hmf⟩, hmh⟩ := hJ
                rw [hshi.1, List.take_length] at N11
                have F12 := fr_over [(Str.ofString "text", .str (sL (rd false cs)) tt), (Str.ofString "negative", .str (sL (rd true cs)) tn), (Str.ofString "plain", .ref D), (Str.ofString "turned", .ref D2), (Str.ofString "hits", .ref H)] F11 (by simp [hmt, hmn, hmpl, hmtu, hmh])
                simp only [over] at F12
                obtain ⟨w1, ⟨_, x1, e1, hw1⟩, hi1⟩ := htx16
                cases e1
                obtain ⟨w2, ⟨_, x2, e2, hw2⟩, hi2⟩ := htx26
                cases e2
                have hs1 := strs_are (vs := w1) hi1
                have hs2 := strs_are (vs := w2) hi2
                have hq1 := ell_pre (b := false) hokp hsum hln
                have hq2 := ell_pre (b := true) hokp hsum hln
                have hC : ∀ (b b' : Bool), (b' = true ↔ MatchL (ps.map (rd b)) (rd b cs)) → (b' != (sharesL ((cs.length : Int) - sumL ps) (ps.length - 1)).any fun ks => strB cs (fillG fillC ps ks)) = false := fun b b' h => any_is hok hokp rfl rfl h
                clear F10 N10 F11
                (try dsimp only)
                (try k_fold)
                k_steps
                · exact absurd ((hC false _ (by assumption)).symm.trans (by assumption)) Bool.false_ne_true
                · exact absurd ((hC true _ (by assumption)).symm.trans (by assumption)) Bool.false_ne_true
                · rename News _ _ _ _ => N13
                  rename Fr _ _ _ _ => F13
                  have q1 := hne _ (.head _)
                  refine Turn.drop (news' := (s₁.heap.objs.size + 1 + 1 + 1, oR) :: (P, W.listOf ps9.toArray 0) :: K) F13 N13 (.tail _ (.tail _ (hsub6 _ (hsub5 _ (hsub4 _ (hsub3 _ hown)))))) (fun p hp => ?_) (fun p hp => ?_) ⟨oR, rfl, ⟨_, hR⟩, ⟨_, rfl⟩, ⟨_, rfl⟩⟩
                  · rcases List.mem_cons.mp hp with rfl | h
                    · exact .tail _ (.head _)
                    · exact .tail _ (.tail _ (hsub6 _ (hsub5 _ (hsub4 _ (hsub3 _ (hsubK _ h))))))
                  · rcases List.mem_cons.mp hp with rfl | h
                    · exact q1
                    · exact hne _ (.tail _ h)
      · intro m' news' h' tk' hJ F5 N5
        (try dsimp only)
        (try k_fold)
        k_steps
        all_goals (try dsimp only)
        exact good_ (by assumption)
  · intro h tk m F1 N1
    clear F0
    k_steps)
end Mine
end
open PySem PySem.W PyProof.Rows
set_option Elab.async false
set_option maxRecDepth 100000 in
set_option maxHeartbeats 8000000 in
theorem PySem.Challenge.cw_pe0158_01_holds : PySem.Challenge.rw_pe0158_01.Holds := by
  exact Mine.lawT
