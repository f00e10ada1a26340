import PyProof.Rows.All
import Wide.All
import OpenK.AllK
import Wide.FinOn
import PySem.Challenge.RW_pd0056_01
set_option Elab.async false
set_option rowWalk.seconds 0
section
open PySem PySem.W PyProof.Rows
namespace Mine
set_option maxRecDepth 100000
set_option maxHeartbeats 8000000
set_option synthInstance.maxSize 1 in
open_top hd for PySem.Challenge.rw_pd0056_01
end Mine
end

section
open PySem PySem.W PyProof.Rows
namespace Mine
set_option maxRecDepth 100000
set_option maxHeartbeats 8000000

abbrev Arnd (dp : Nat) (outer : List Env) (gd : Option (List Code)) (un : Nat) : Around := ⟨none, dp, some outer, gd, un⟩

/-- a contract of a def: called with args, from any frame, it comes back, the heap has only grown -/
def Spec (w : World) (f : Addr) (args : List Value) (d u : Nat) (pre : Heap → Prop) (post : Heap → Value → Heap → Prop) : Prop :=
  ∀ (dp : Nat) (outer : List Env) (gd : Option (List Code)) (un : Nat) (base : Heap) (s : Shared) (Q : Value → Shared → Prop) (E : Value → Shared → Prop)
    (mean : ExcName → Option Value) (mg mb : Str → Option Value),
    Below (Arnd dp outer gd un) base outer s.heap → (hd.heap_39 w.params).In s.heap → Top hd.view_39 (looseW hd.view_39 []) mean mg mb s.heap →
    dp + d < recursionLimit → un + u < cLine → pre s.heap →
    (∀ v h' tk, s.heap.StaysIn h' → post s.heap v h' → Q v { s with heap := h', toks := tk }) →
    wpAny (model PySem.Challenge.rw_pd0056_01.row.prog w) (Arnd dp outer gd un) (call (.ref f) args) Q E s

/-- the end of a def's body -/
def Back (h₀ : Heap) (s : Shared) (post : Heap → Value → Heap → Prop) (fl : Flow) (s' : Shared) : Prop :=
  h₀.StaysIn s'.heap ∧ ∃ h' tk, s' = { s with heap := h', toks := tk } ∧ post h₀ (match fl with | .ret v => v | _ => .none) h'
theorem Back.retN {h₀ h' : Heap} {s : Shared} {post : Heap → Value → Heap → Prop} {v : Value} {L : Addr} {m : Str → Option Value} {tk : Nat} {news : List (Addr × Obj)} (F : Fr h₀ L h' m) (N : News h₀ L h' news) (hp : News h₀ L h' news → post h₀ v h') :
    Back h₀ s post (.ret v) { s with heap := h', toks := tk } := ⟨F.keep, h', tk, rfl, hp N⟩
theorem Back.ret {h₀ h' : Heap} {s : Shared} {post : Heap → Value → Heap → Prop} {v : Value} {L : Addr} {m : Str → Option Value} {tk : Nat} (F : Fr h₀ L h' m) (hp : post h₀ v h') :
    Back h₀ s post (.ret v) { s with heap := h', toks := tk } := ⟨F.keep, h', tk, rfl, hp⟩

/-- entering a def of the text -/
theorem enter {w : World} {f : Addr} {args : List Value} {d u : Nat} {pre : Heap → Prop} {post : Heap → Value → Heap → Prop}
    {name qual : Str} {params : Arguments} {body : List Stmt} {scope : Scope} {dV kV doc pm cdv ct oc : Value} {an od : Option Addr} {osl : Array (Option Value)} (binds : List (Str × Value))
    (ho : (hd.heap_39 w.params).lookup f = some ⟨oc, od, .func (fnOf name qual params body scope dV kV doc pm an cdv ct), osl⟩) (hcd : codeIn (hd.heap_39 w.params) cdv qual = true)
    (hbind : ∀ s, BindsTo s (fnOf name qual params body scope dV kV doc pm an cdv ct) ⟨args, []⟩ binds) (hloc : ∀ y ∈ binds, scope.names.lookup y.1 = some .local)
    (h : ∀ (dp : Nat) (outer : List Env) (gd : Option (List Code)) (un : Nat) (base h₀ : Heap) (s : Shared) (L : Addr)
      (mean : ExcName → Option Value) (mg mb : Str → Option Value),
      Below (Arnd dp outer gd un) base outer h₀ → (hd.heap_39 w.params).In h₀ → Top hd.view_39 (looseW hd.view_39 []) mean mg mb h₀ → dp + d < recursionLimit → un + u < cLine → pre h₀ →
      Fr h₀ L s.heap (fun y => binds.reverse.lookup y) → News h₀ L s.heap [] →
      wpAny (model PySem.Challenge.rw_pd0056_01.row.prog w) ((Arnd dp outer gd un).deeper (envOf qual scope L f cdv)) (execs body (envOf qual scope L f cdv)) (Back h₀ s post) (fun _ _ => False) s)
    (hd : 0 < d)
    (hco : scope.isCoroutine = false) (hgen : scope.isGenerator = false) (hk : scope.kind = .function)
    (hcell : ∀ x ∈ scope.names, x.2 ≠ .cell) : Spec w f args d u pre post := by
  intro dp outer gd un base s Q E mean mg mb B X T hdp hun hpre hQ
  refine wpAny_call ?_
  refine PySem.codeAny_call_def (fd := fnOf name qual params body scope dV kV doc pm an cdv ct) (body := body) (binds := binds) (by show dp < _; omega) (X _ _ ho) rfl (T.nolimit) (codeRec_of X hcd) rfl (hbind s) hcell hloc (fun h₁ hns hk₁ => ?_) hco hgen hk
  have F : Fr s.heap s.heap.objs.size h₁ (fun y => binds.reverse.lookup y) := ⟨hns, hk₁, Nat.le_refl _⟩
  refine wpAny_mono (h dp outer gd un base s.heap { s with heap := h₁, toks := s.toks + binds.length } s.heap.objs.size mean mg mb B X T hdp hun hpre F News.nil) (fun fl s' hl => ?_) fun _ _ y => y.elim
  obtain ⟨hst, h', tk, rfl, hp⟩ := hl
  exact hQ _ h' tk hst hp
theorem kfill : PySem.Challenge.rw_pd0056_01 = PySem.Challenge.rw_pd0056_01 ∧ hd.heap_39 = hd.heap_39 := ⟨rfl, rfl⟩

theorem Fr.stays {h₀ h h' : Heap} {L : Addr} {m : Str → Option Value} (F : Fr h₀ L h m) (st : h.StaysIn h') : Fr h₀ L h' m := ⟨F.ns.keeps st, fun b o e => st b o (F.keep b o e), F.above⟩
theorem News.stays {h₀ h h' : Heap} {L : Addr} {news : List (Addr × Obj)} (N : News h₀ L h news) (st : h.StaysIn h') : News h₀ L h' news := fun p hp => ⟨st _ _ (N p hp).1, (N p hp).2⟩
theorem News.also {h₀ h h' : Heap} {L a : Addr} {m : Str → Option Value} {o : Obj} {news : List (Addr × Obj)} (F : Fr h₀ L h m) (N : News h₀ L h news) (st : h.StaysIn h') (hn : h.get? a = none) (hs : h'.get? a = some o) :
    News h₀ L h' ((a, o) :: news) := by
  intro p hp
  rcases List.mem_cons.mp hp with rfl | hp
  · refine ⟨hs, fun e => ?_, ?_⟩
    · obtain ⟨oL, _, _, hL, _⟩ := F.ns
      rw [show (a, o).1 = a from rfl] at e
      rw [← e, hn] at hL; cases hL
    · cases q : h₀.get? a with
      | none => rfl
      | some o' => rw [F.keep _ _ q] at hn; cases hn
  · exact (News.stays N st) p hp

/-- a call inside a frame, by its contract -/
theorem Spec.use {w : World} {f : Addr} {args : List Value} {d u : Nat} {pre : Heap → Prop} {post : Heap → Value → Heap → Prop} (S : Spec w f args d u pre post)
    {dp un : Nat} {outer : List Env} {gd : Option (List Code)} {base h₀ : Heap} {s : Shared} {L fa : Addr} {m mg mb : Str → Option Value} {mean : ExcName → Option Value} {qual : Str} {scope : Scope} {cdv : Value}
    {Q : Value → Shared → Prop} {E : Value → Shared → Prop}
    (B : Below (Arnd dp outer gd un) base outer h₀) (X : (hd.heap_39 w.params).In h₀) (T : Top hd.view_39 (looseW hd.view_39 []) mean mg mb h₀) (F : Fr h₀ L s.heap m) (hk : scope.kind = .function)
    (hdp : dp + 1 + d < recursionLimit) (hun : un + 3 + u < cLine) (hpre : pre s.heap)
    (h : ∀ v h' tk, Fr h₀ L h' m → s.heap.StaysIn h' → post s.heap v h' → Q v { s with heap := h', toks := tk }) :
    wpAny (model PySem.Challenge.rw_pd0056_01.row.prog w) ((Arnd dp outer gd un).deeper (envOf qual scope L fa cdv)) (call (.ref f) args) Q E s :=
  S (dp + 1) (envOf qual scope L fa cdv :: outer) gd (un + 3) base s Q E mean mg mb (B.push F hk) (X.keeps F.keep) (T.keeps F.keep) hdp hun hpre fun v h' tk st hp => h v h' tk (Fr.stays F st) st hp

def RetStr (y : Str) : Heap → Value → Heap → Prop := fun _ v _ => ∃ t, v = .str y t
def RetPair (a b : Str) : Heap → Value → Heap → Prop := fun h v h' => ∃ l t u, v = .ref l ∧ h.get? l = none ∧ h'.get? l = some { cls := .type "tuple", data := .seq #[.str a t, .str b u] }
def RetVal (x : Value) : Heap → Value → Heap → Prop := fun _ v _ => v = x
def RetBool (b : Bool) : Heap → Value → Heap → Prop := fun _ v _ => v = .bool b
def RetStrs (ys : List Str) : Heap → Value → Heap → Prop := fun h v h' => ∃ l vs n, v = .ref l ∧ h.get? l = none ∧ h'.get? l = some (listOf vs n) ∧ StrsAre vs.toList ys

theorem retPair_of {h₀ h' : Heap} {L D : Addr} {news : List (Addr × Obj)} {a b a' b' : Str} {t u : Tok} (N : News h₀ L h' ((D, { cls := .type "tuple", data := .seq #[.str a' t, .str b' u] }) :: news)) (e1 : a' = a) (e2 : b' = b) : RetPair a b h₀ (.ref D) h' := by
  subst e1; subst e2
  exact ⟨D, t, u, rfl, (N _ (.head _)).2.2, (N _ (.head _)).1⟩
theorem retStrs_of {h₀ h' : Heap} {L D : Addr} {news : List (Addr × Obj)} {vs : Array Value} {n : Nat} {ys : List Str} (N : News h₀ L h' news) (hm : (D, listOf vs n) ∈ news) (hs : StrsAre vs.toList ys) : RetStrs ys h₀ (.ref D) h' :=
  ⟨D, vs, n, rfl, (N _ hm).2.2, (N _ hm).1, hs⟩
section
variable {w : World} {f : Addr} {args : List Value} {d u : Nat} {pre : Heap → Prop} {dp un : Nat} {outer : List Env} {gd : Option (List Code)} {base h₀ : Heap} {s : Shared} {L fa : Addr} {m mg mb : Str → Option Value} {mean : ExcName → Option Value} {qual : Str} {scope : Scope} {cdv : Value}
    {Q : Value → Shared → Prop} {E : Value → Shared → Prop} {news : List (Addr × Obj)}
theorem Spec.useS {y : Str} (S : Spec w f args d u pre (RetStr y)) (B : Below (Arnd dp outer gd un) base outer h₀) (X : (hd.heap_39 w.params).In h₀) (T : Top hd.view_39 (looseW hd.view_39 []) mean mg mb h₀) (F : Fr h₀ L s.heap m) (N : News h₀ L s.heap news) (hpre : pre s.heap) (hk : scope.kind = .function)
    (hdp : dp + 1 + d < recursionLimit) (hun : un + 3 + u < cLine)
    (h : ∀ t h' tk, Fr h₀ L h' m → News h₀ L h' news → Q (.str y t) { s with heap := h', toks := tk }) :
    wpAny (model PySem.Challenge.rw_pd0056_01.row.prog w) ((Arnd dp outer gd un).deeper (envOf qual scope L fa cdv)) (call (.ref f) args) Q E s :=
  S.use B X T F hk hdp hun hpre fun _ h' tk F' st ⟨t, e⟩ => e ▸ h t h' tk F' (News.stays N st)
theorem Spec.useV {x : Value} (S : Spec w f args d u pre (RetVal x)) (B : Below (Arnd dp outer gd un) base outer h₀) (X : (hd.heap_39 w.params).In h₀) (T : Top hd.view_39 (looseW hd.view_39 []) mean mg mb h₀) (F : Fr h₀ L s.heap m) (N : News h₀ L s.heap news) (hpre : pre s.heap) (hk : scope.kind = .function)
    (hdp : dp + 1 + d < recursionLimit) (hun : un + 3 + u < cLine)
    (h : ∀ h' tk, Fr h₀ L h' m → News h₀ L h' news → Q x { s with heap := h', toks := tk }) :
    wpAny (model PySem.Challenge.rw_pd0056_01.row.prog w) ((Arnd dp outer gd un).deeper (envOf qual scope L fa cdv)) (call (.ref f) args) Q E s :=
  S.use B X T F hk hdp hun hpre fun _ h' tk F' st e => e ▸ h h' tk F' (News.stays N st)
theorem Spec.useP {a b : Str} (S : Spec w f args d u pre (RetPair a b)) (B : Below (Arnd dp outer gd un) base outer h₀) (X : (hd.heap_39 w.params).In h₀) (T : Top hd.view_39 (looseW hd.view_39 []) mean mg mb h₀) (F : Fr h₀ L s.heap m) (N : News h₀ L s.heap news) (hpre : pre s.heap) (hk : scope.kind = .function)
    (hdp : dp + 1 + d < recursionLimit) (hun : un + 3 + u < cLine)
    (h : ∀ l t u h' tk, Fr h₀ L h' m → News h₀ L h' ((l, { cls := .type "tuple", data := .seq #[.str a t, .str b u] }) :: news) → (∀ p ∈ news, p.1 ≠ l) → Q (.ref l) { s with heap := h', toks := tk }) :
    wpAny (model PySem.Challenge.rw_pd0056_01.row.prog w) ((Arnd dp outer gd un).deeper (envOf qual scope L fa cdv)) (call (.ref f) args) Q E s :=
  S.use B X T F hk hdp hun hpre fun _ h' tk F' st ⟨l, t, u, e, h1, h2⟩ => e ▸ h l t u h' tk F' (News.also F N st h1 h2) fun p hp q => by rw [← q, (N p hp).1] at h1; cases h1
theorem Spec.useB {b : Bool} (S : Spec w f args d u pre (RetBool b)) (B : Below (Arnd dp outer gd un) base outer h₀) (X : (hd.heap_39 w.params).In h₀) (T : Top hd.view_39 (looseW hd.view_39 []) mean mg mb h₀) (F : Fr h₀ L s.heap m) (N : News h₀ L s.heap news) (hpre : pre s.heap) (hk : scope.kind = .function)
    (hdp : dp + 1 + d < recursionLimit) (hun : un + 3 + u < cLine)
    (h : ∀ h' tk, Fr h₀ L h' m → News h₀ L h' news → Q (.bool b) { s with heap := h', toks := tk }) :
    wpAny (model PySem.Challenge.rw_pd0056_01.row.prog w) ((Arnd dp outer gd un).deeper (envOf qual scope L fa cdv)) (call (.ref f) args) Q E s :=
  S.use B X T F hk hdp hun hpre fun _ h' tk F' st e => e ▸ h h' tk F' (News.stays N st)
theorem Spec.useL {ys : List Str} (S : Spec w f args d u pre (RetStrs ys)) (B : Below (Arnd dp outer gd un) base outer h₀) (X : (hd.heap_39 w.params).In h₀) (T : Top hd.view_39 (looseW hd.view_39 []) mean mg mb h₀) (F : Fr h₀ L s.heap m) (N : News h₀ L s.heap news) (hpre : pre s.heap) (hk : scope.kind = .function)
    (hdp : dp + 1 + d < recursionLimit) (hun : un + 3 + u < cLine)
    (h : ∀ l vs n h' tk, Fr h₀ L h' m → News h₀ L h' ((l, listOf vs n) :: news) → StrsAre vs.toList ys → (∀ p ∈ news, p.1 ≠ l) → Q (.ref l) { s with heap := h', toks := tk }) :
    wpAny (model PySem.Challenge.rw_pd0056_01.row.prog w) ((Arnd dp outer gd un).deeper (envOf qual scope L fa cdv)) (call (.ref f) args) Q E s :=
  S.use B X T F hk hdp hun hpre fun _ h' tk F' st ⟨l, vs, n, e, h1, h2, h3⟩ => e ▸ h l vs n h' tk F' (News.also F N st h1 h2) h3 fun p hp q => by rw [← q, (N p hp).1] at h1; cases h1
end
end Mine
end

section
open PySem PySem.W PyProof.Rows
namespace Mine
set_option maxRecDepth 100000
set_option maxHeartbeats 8000000
/-- entering a def with a star parameter -/
theorem enterRest {w : World} {f : Addr} {args vs : List Value} {d u : Nat} {pre : Heap → Prop} {post : Heap → Value → Heap → Prop}
    {name qual : Str} {params : Arguments} {body : List Stmt} {scope : Scope} {dV kV doc pm cdv ct oc : Value} {an od : Option Addr} {osl : Array (Option Value)} (binds : Value → List (Str × Value))
    (ho : (hd.heap_39 w.params).lookup f = some ⟨oc, od, .func (fnOf name qual params body scope dV kV doc pm an cdv ct), osl⟩) (hcd : codeIn (hd.heap_39 w.params) cdv qual = true)
    (hbind : bindArgs (fnOf name qual params body scope dV kV doc pm an cdv ct) ⟨args, []⟩ = (newTuple vs >>= fun v => pure (binds v))) (hvs : vs.length ≤ 100) (hloc : ∀ v, ∀ y ∈ binds v, scope.names.lookup y.1 = some .local)
    (h : ∀ (dp : Nat) (outer : List Env) (gd : Option (List Code)) (un : Nat) (base h₀ : Heap) (s : Shared) (L D : Addr)
      (mean : ExcName → Option Value) (mg mb : Str → Option Value),
      Below (Arnd dp outer gd un) base outer h₀ → (hd.heap_39 w.params).In h₀ → Top hd.view_39 (looseW hd.view_39 []) mean mg mb h₀ → dp + d < recursionLimit → un + u < cLine → pre h₀ →
      Fr h₀ L s.heap (fun y => (binds (.ref D)).reverse.lookup y) → News h₀ L s.heap [(D, { cls := .type "tuple", data := .seq vs.toArray })] →
      wpAny (model PySem.Challenge.rw_pd0056_01.row.prog w) ((Arnd dp outer gd un).deeper (envOf qual scope L f cdv)) (execs body (envOf qual scope L f cdv)) (Back h₀ s post) (fun _ _ => False) s)
    (hd : 0 < d)
    (hco : scope.isCoroutine = false) (hgen : scope.isGenerator = false) (hk : scope.kind = .function)
    (hcell : ∀ x ∈ scope.names, x.2 ≠ .cell) : Spec w f args d u pre post := by
  intro dp outer gd un base s Q E mean mg mb B X T hdp hun hpre hQ
  refine wpAny_call ?_
  refine codeAny_call_function (fd := fnOf name qual params body scope dV kV doc pm an cdv ct) (body := body) (by show dp < _; omega) (X _ _ ho) rfl hco hgen rfl (codeRec_of X hcd) ?_
  rw [hbind]
  refine wpAny_bind (wpAny_newObj_type (wpAny_pure ?_) (by show vs.toArray.size ≤ sizeLine; rw [List.size_toArray, sizeLine]; omega))
  refine wpAny_newFunctionEnv hcell (hloc _) (fun h₁ hns hsb => ⟨((T.nolimit).keeps fun b o e => Heap.get?_push_of_some _ e).fresh _ hsb, ?_⟩) hk
  show codeAny _ _ (.func body (envOf qual scope (s.heap.push { cls := .type "tuple", data := .seq vs.toArray }).objs.size f cdv)) _ _
  refine codeAny_func ?_
  have hk0 : ∀ b o, (s.heap.push { cls := .type "tuple", data := .seq vs.toArray }).get? b = some o → h₁.get? b = some o := fun b o e => hsb.extBut b o (Nat.ne_of_lt (Heap.lt_size e)) (Heap.get?_push_of_some _ e)
  have hk₁ : ∀ b o, s.heap.get? b = some o → h₁.get? b = some o := fun b o e => hk0 b o (Heap.get?_push_of_some _ e)
  have F : Fr s.heap (s.heap.push { cls := .type "tuple", data := .seq vs.toArray }).objs.size h₁ (fun y => (binds (.ref s.heap.objs.size)).reverse.lookup y) := ⟨hns, hk₁, by rw [Heap.size_push]; omega⟩
  have N : News s.heap (s.heap.push { cls := .type "tuple", data := .seq vs.toArray }).objs.size h₁ [(s.heap.objs.size, { cls := .type "tuple", data := .seq vs.toArray })] := by
    intro p hp
    rw [List.mem_singleton.mp hp]
    refine ⟨hk0 _ _ (Heap.get?_push_size _ rfl), ?_, Heap.get?_none_of_le (Nat.le_refl _)⟩
    rw [Heap.size_push]
    show s.heap.objs.size ≠ _
    omega
  refine wpAny_mono (h dp outer gd un base s.heap { s with heap := h₁, toks := s.toks + (binds (.ref s.heap.objs.size)).length } _ s.heap.objs.size mean mg mb B X T hdp hun hpre F N) (fun fl s' hl => ?_) fun _ _ y => y.elim
  obtain ⟨hst, h', tk, rfl, hp⟩ := hl
  exact hQ _ h' tk hst hp
end Mine
end

section
open PySem PySem.W PyProof.Rows
namespace Mine
set_option maxRecDepth 100000
set_option maxHeartbeats 8000000

def RetTri (a b c : Str) : Heap → Value → Heap → Prop := fun h v h' => ∃ l t u r, v = .ref l ∧ h.get? l = none ∧ h'.get? l = some { cls := .type "tuple", data := .seq #[.str a t, .str b u, .str c r] }
theorem retTri_of {h₀ h' : Heap} {L D : Addr} {news : List (Addr × Obj)} {a b c a' b' c' : Str} {t u r : Tok} (N : News h₀ L h' ((D, { cls := .type "tuple", data := .seq #[.str a' t, .str b' u, .str c' r] }) :: news)) (e1 : a' = a) (e2 : b' = b) (e3 : c' = c) : RetTri a b c h₀ (.ref D) h' := by
  subst e1; subst e2; subst e3
  exact ⟨D, t, u, r, rfl, (N _ (.head _)).2.2, (N _ (.head _)).1⟩
section
variable {w : World} {f : Addr} {args : List Value} {d u : Nat} {pre : Heap → Prop} {dp un : Nat} {outer : List Env} {gd : Option (List Code)} {base h₀ : Heap} {s : Shared} {L fa : Addr} {m mg mb : Str → Option Value} {mean : ExcName → Option Value} {qual : Str} {scope : Scope} {cdv : Value}
    {Q : Value → Shared → Prop} {E : Value → Shared → Prop} {news : List (Addr × Obj)}
theorem Spec.useT {a b c : Str} (S : Spec w f args d u pre (RetTri a b c)) (B : Below (Arnd dp outer gd un) base outer h₀) (X : (hd.heap_39 w.params).In h₀) (T : Top hd.view_39 (looseW hd.view_39 []) mean mg mb h₀) (F : Fr h₀ L s.heap m) (N : News h₀ L s.heap news) (hpre : pre s.heap) (hk : scope.kind = .function)
    (hdp : dp + 1 + d < recursionLimit) (hun : un + 3 + u < cLine)
    (h : ∀ l t u r h' tk, Fr h₀ L h' m → News h₀ L h' ((l, { cls := .type "tuple", data := .seq #[.str a t, .str b u, .str c r] }) :: news) → (∀ p ∈ news, p.1 ≠ l) → Q (.ref l) { s with heap := h', toks := tk }) :
    wpAny (model PySem.Challenge.rw_pd0056_01.row.prog w) ((Arnd dp outer gd un).deeper (envOf qual scope L fa cdv)) (call (.ref f) args) Q E s :=
  S.use B X T F hk hdp hun hpre fun _ h' tk F' st ⟨l, t, u, r, e, h1, h2⟩ => e ▸ h l t u r h' tk F' (News.also F N st h1 h2) fun p hp q => by rw [← q, (N p hp).1] at h1; cases h1
end
/-- a place where the walk stops -/
def Stop (p : Prop) : Prop := p
theorem Stop.here {p : Prop} (h : Stop p) : p := h
theorem Stop.on {p : Prop} (h : p) : Stop p := h

def TurnEnd (h₀ : Heap) (L : Addr) (own : List (Addr × Obj)) (wr : List Addr) (J : (Str → Option Value) → List (Addr × Obj) → Prop) (s₁ s₂ : Shared) : Prop :=
  ∃ h' tk m' news' nx, s₂ = { s₁ with heap := h', toks := tk } ∧ Fr h₀ L h' m' ∧ News h₀ L h' news' ∧ (∀ p ∈ nx, p ∈ news') ∧ (∀ p ∈ own, p ∈ news') ∧ (∀ p ∈ nx, p.1 ∉ wr) ∧ J m' nx
def Turn (h₀ : Heap) (L : Addr) (own : List (Addr × Obj)) (wr : List Addr) (J : (Str → Option Value) → List (Addr × Obj) → Prop) (Q : Flow → Shared → Prop) (s₁ : Shared) (f : Flow) (s₂ : Shared) : Prop :=
  match f with
  | .ret v => Q (.ret v) s₂
  | .brk => Q .next s₂
  | _ => TurnEnd h₀ L own wr J s₁ s₂
theorem TurnEnd.mk {h₀ h' : Heap} {L : Addr} {own news' : List (Addr × Obj)} {wr : List Addr} {J : (Str → Option Value) → List (Addr × Obj) → Prop} {s₁ : Shared} {m' : Str → Option Value} {tk : Nat} (nx : List (Addr × Obj))
    (F : Fr h₀ L h' m') (N : News h₀ L h' news') (h1 : ∀ p ∈ nx, p ∈ news') (h2 : ∀ p ∈ own, p ∈ news') (h3 : ∀ p ∈ nx, p.1 ∉ wr) (hj : J m' nx) : TurnEnd h₀ L own wr J s₁ { s₁ with heap := h', toks := tk } :=
  ⟨h', tk, m', news', nx, rfl, F, N, h1, h2, h3, hj⟩

section
variable {prog : Program} {w : World} {A : Around} {E : Value → Shared → Prop} {s : Shared} {env : Env} {h₀ : Heap} {x : Str} {body : List Stmt} {Q : Flow → Shared → Prop}
theorem turn_fin {own wrl : List (Addr × Obj)} {wr : List Addr} {J : (Str → Option Value) → List (Addr × Obj) → Prop} {s₁ s₂ : Shared} (hsub : ∀ p ∈ wrl, p ∈ own) (h : TurnEnd h₀ env.locals own wr J s₁ s₂) :
    LoopStepU h₀ env.locals wr wrl J s₁ .next s₂ := by
  obtain ⟨h', tk, m', news', nx, e, F', N', hn, ho, ha, hm⟩ := h
  exact ⟨rfl, h', tk, m', nx, e, F', fun p hp => N' p ((List.mem_append.mp hp).elim (fun q => ho p (hsub p q)) (hn p)), ha, hm⟩

/-- a for over a list -/
theorem iterList {l : Addr} {vs : List Value} {m₀ : Str → Option Value} {news : List (Addr × Obj)} (J : Nat → (Str → Option Value) → List (Addr × Obj) → Prop)
    (hh : A.handled = none) (hl : s.heap.IsList l vs.toArray) (hlL : l ≠ env.locals) (F : Fr h₀ env.locals s.heap m₀) (N : News h₀ env.locals s.heap news) (hj : J 0 m₀ news)
    (turn : ∀ i v m₁ news₁ I h tk own, vs[i]? = some v → J i m₁ news₁ → (∀ p ∈ news₁, p.1 ∉ [I]) → (∀ q ∈ own, q.1 ∈ [I, l]) → (∀ b ∈ [I], ∃ o, (b, o) ∈ own) → Fr h₀ env.locals h (fun y => if y = x then some v else m₁ y) → News h₀ env.locals h (news₁ ++ own) →
      wpAny (model prog w) A (execs body env) (Turn h₀ env.locals own [I] (J (i + 1)) Q { s with heap := h, toks := tk }) E { s with heap := h, toks := tk })
    (done : ∀ m₁ news₁ h tk, J vs.length m₁ news₁ → Fr h₀ env.locals h m₁ → News h₀ env.locals h news₁ → Q .next { s with heap := h, toks := tk }) :
    wpAny (model prog w) A (pyIter (.ref l)) (fun it s₂ => LoopAtV prog w A h₀ env x body Q E it s₂) E s := by
  obtain ⟨ol, hol, _⟩ := id hl
  have hne : l ≠ s.heap.objs.size := Nat.ne_of_lt (Heap.lt_size hol)
  refine wpAny_pyIter_list hl ?_
  have W := Walks.list (prog := prog) (w := w) hh s.heap.objs.size l hne vs.toArray
  have hlen : vs.toArray.size = vs.length := by simp
  rw [hlen] at W
  refine ⟨_, _, _, vs.length, _, _, m₀, news, J, rfl, W, ?_, ?_, ?_, ⟨⟨_, Heap.get?_push_size _ rfl, rfl, rfl⟩, hl.at fun o e => Heap.get?_push_of_some _ e⟩, F.push _, (fun p hp => ⟨Heap.get?_push_of_some _ (N p hp).1, (N p hp).2⟩), hj, ?_, ?_⟩
  · intro hm
    rcases List.mem_cons.mp hm with e | hm
    · exact absurd F.ns.lt (e ▸ Nat.lt_irrefl _)
    · exact hlL (List.mem_singleton.mp hm).symm
  · intro b hb
    rw [List.mem_singleton.mp hb]
    exact next_is_new F
  · intro p hp hI
    exact absurd (Heap.lt_size (N p hp).1) ((List.mem_singleton.mp hI) ▸ Nat.lt_irrefl _)
  · rintro i v m₁ news₁ s₁ own ⟨hh', tk', rfl⟩ hin hP hJ hoff hown _ hfp hst F₁ N₁
    have hIo : ∀ b ∈ [s.heap.objs.size], ∃ o, (b, o) ∈ own := fun b hb => by
      rw [List.mem_singleton.mp hb]
      obtain ⟨o, ho, _⟩ := hst.1
      exact ⟨o, hfp _ (by simp) (next_is_new F) o ho⟩
    have N₂ : News h₀ env.locals hh' (news₁ ++ own) := fun p hp => N₁ p ((List.mem_append.mp hp).elim (fun h => List.mem_append.mpr (.inr h)) fun h => List.mem_append.mpr (.inl h))
    refine wpAny_mono (turn i v m₁ news₁ s.heap.objs.size hh' tk' own (by simpa using hP) hJ hoff hown hIo F₁ N₂) (fun f s₂ p => ?_) fun _ _ e => e
    cases f with
    | ret v => exact .ret p
    | brk => exact .brk p
    | next => exact .next (turn_fin (fun _ q => q) p)
    | cont => exact .cont (turn_fin (fun _ q => q) p)
  · rintro h' tk m' news' F' N' _ hJ
    exact done m' news' h' tk hJ F' N'

/-- a for over a range from nought, by ones -/
theorem iterRange {r : Addr} {b₀ : Int} {t₀ u₀ v₀ : Tok} {n : Nat} {m₀ : Str → Option Value} {news : List (Addr × Obj)} (J : Nat → (Str → Option Value) → List (Addr × Obj) → Prop)
    (hh : A.handled = none) (hr : IsRange s.heap r 0 b₀ 1 t₀ u₀ v₀) (hsmall : Builtin.Range.small 0 b₀ 1 = true) (hn : Builtin.Range.rangeSize 0 b₀ 1 = (n : Int)) (F : Fr h₀ env.locals s.heap m₀) (N : News h₀ env.locals s.heap news) (hj : J 0 m₀ news)
    (turn : ∀ (i : Nat) t m₁ news₁ I h tk own, i < n → J i m₁ news₁ → (∀ p ∈ news₁, p.1 ∉ [I]) → (∀ q ∈ own, q.1 ∈ [I]) → (∀ b ∈ [I], ∃ o, (b, o) ∈ own) → Fr h₀ env.locals h (fun y => if y = x then some (.int (i : Int) t) else m₁ y) → News h₀ env.locals h (news₁ ++ own) →
      wpAny (model prog w) A (execs body env) (Turn h₀ env.locals own [I] (J (i + 1)) Q { s with heap := h, toks := tk }) E { s with heap := h, toks := tk })
    (done : ∀ m₁ news₁ h tk, J n m₁ news₁ → Fr h₀ env.locals h m₁ → News h₀ env.locals h news₁ → Q .next { s with heap := h, toks := tk }) :
    wpAny (model prog w) A (pyIter (.ref r)) (fun it s₂ => LoopAtV prog w A h₀ env x body Q E it s₂) E s := by
  refine wpAny_pyIter_range hr hsmall ?_
  have W : Walks prog w A s.heap.objs.size [s.heap.objs.size] [s.heap.objs.size] n (fun i v => i < n ∧ ∃ t, v = .int (0 + i * 1) t)
      (fun i h => IsRangeIter h s.heap.objs.size (0 + (i : Nat) * 1) ((n : Int) - (i : Nat)) 1) := (Walks.range hh _ 0 1 n).bound
  refine ⟨_, _, _, n, _, _, m₀, news, J, rfl, W, ?_, ?_, ?_, (by show IsRangeIter _ _ _ _ _; rw [hn]; simpa using Heap.get?_push_size _ rfl), F.push _, (fun p hp => ⟨Heap.get?_push_of_some _ (N p hp).1, (N p hp).2⟩), hj, ?_, ?_⟩
  · intro hm
    exact absurd F.ns.lt ((List.mem_singleton.mp hm) ▸ Nat.lt_irrefl _)
  · intro b hb
    rw [List.mem_singleton.mp hb]
    exact next_is_new F
  · intro p hp hI
    exact absurd (Heap.lt_size (N p hp).1) ((List.mem_singleton.mp hI) ▸ Nat.lt_irrefl _)
  · rintro i v m₁ news₁ s₁ own ⟨hh', tk', rfl⟩ hin ⟨_, t, rfl⟩ hJ hoff hown _ hfp hst F₁ N₁
    have hIo : ∀ b ∈ [s.heap.objs.size], ∃ o, (b, o) ∈ own := fun b hb => by
      rw [List.mem_singleton.mp hb]
      exact ⟨_, hfp _ (by simp) (next_is_new F) _ hst⟩
    have N₂ : News h₀ env.locals hh' (news₁ ++ own) := fun p hp => N₁ p ((List.mem_append.mp hp).elim (fun h => List.mem_append.mpr (.inr h)) fun h => List.mem_append.mpr (.inl h))
    have e1 : (0 : Int) + (i : Int) * 1 = (i : Int) := by omega
    rw [e1] at F₁
    refine wpAny_mono (turn i t m₁ news₁ s.heap.objs.size hh' tk' own hin hJ hoff hown hIo F₁ N₂) (fun f s₂ p => ?_) fun _ _ e => e
    cases f with
    | ret v => exact .ret p
    | brk => exact .brk p
    | next => exact .next (turn_fin (fun _ q => q) p)
    | cont => exact .cont (turn_fin (fun _ q => q) p)
  · rintro h' tk m' news' F' N' _ hJ
    exact done m' news' h' tk hJ F' N'
end

section
variable {prog : Program} {w : World} {A : Around} {E : Value → Shared → Prop} {s : Shared} {env : Env} {h₀ : Heap} {xi xc : Str} {body : List Stmt} {Q : Flow → Shared → Prop}

/-- a for over enumerate(list) -/
def EnumAt (prog : Program) (w : World) (A : Around) (h₀ : Heap) (env : Env) (xi xc : Str) (body : List Stmt) (Q : Flow → Shared → Prop) (E : Value → Shared → Prop) (xv : Value) (s₁ : Shared) : Prop :=
  ∃ (e it l : Addr) (vs : List Value) (m : Str → Option Value) (news : List (Addr × Obj)) (J : Nat → (Str → Option Value) → List (Addr × Obj) → Prop),
    xv = .ref e ∧ e ≠ it ∧ l ≠ e ∧ l ≠ it ∧ env.locals ∉ [e, it, l] ∧ (∀ b ∈ [e, it], h₀.get? b = none) ∧ (∀ p ∈ news, p.1 ∉ [e, it]) ∧
    IsEnum s₁.heap e it 0 .none ∧ s₁.heap.IsListIter it l 0 ∧ s₁.heap.IsList l vs.toArray ∧ Fr h₀ env.locals s₁.heap m ∧ News h₀ env.locals s₁.heap news ∧ J 0 m news ∧
    (∀ (i : Nat) v t m₁ news₁ h tk own, vs[i]? = some v → J i m₁ news₁ → (∀ p ∈ news₁, p.1 ∉ [e, it]) → (∀ q ∈ own, q.1 ∈ [e, it, l]) → (∀ b ∈ [e, it], ∃ o, (b, o) ∈ own) →
      Fr h₀ env.locals h (fun y => if y = xc then some v else if y = xi then some (.int (i : Int) t) else m₁ y) → News h₀ env.locals h (news₁ ++ own) →
      wpAny (model prog w) A (execs body env) (Turn h₀ env.locals own [e, it] (J (i + 1)) Q { s₁ with heap := h, toks := tk }) E { s₁ with heap := h, toks := tk }) ∧
    (∀ m₁ news₁ h tk, J vs.length m₁ news₁ → Fr h₀ env.locals h m₁ → News h₀ env.locals h news₁ → Q .next { s₁ with heap := h, toks := tk })

theorem For_enum {pk pv pt pos : Pos} {x1 : Nat} {iter : Expr} (hh : A.handled = none)
    (hxi : env.kindOf xi = some .local) (hxc : env.kindOf xc = some .local)
    (hp : (env.scope.kind == .class || (env.scope.kind == .module && env.locals != env.globals)) = false)
    (h : wpAny (model prog w) A (eval iter env) (fun xv s₁ => EnumAt prog w A h₀ env xi xc body Q E xv s₁) E s)
    (hs : ∀ x, foldedSetIterable iter env x = pure x)
    (hE : PassesOwn (model prog w) A env E := by passes_own) :
    wpAny (model prog w) A (exec (.For (.Tuple [.Name xi pk, .Name xc pv] x1 pt) iter body [] pos) env) Q E s := by
  refine wpAny_For (wpAny_mono h (fun xv s₁ h₁ => ?_) fun _ _ e => e) hs
  obtain ⟨e, it, l, vs, m, news, J, rfl, hei, hle, hli, hLf, hwr, hnw, he, hit, hl, F, N, h0, step, hQ⟩ := h₁
  refine wpAny_pyIter_enum he ?_
  have W := WalksT.enumerate (prog := prog) (w := w) hh e it l hei hle hli vs.toArray
  have hlen : vs.toArray.size = vs.length := by simp
  rw [hlen] at W
  have hLw : env.locals ∉ [e, it] := fun h => hLf (W.sub _ h)
  have old : ∀ b o, h₀.get? b = some o → b ∉ [e, it] := fun b o e hb => by rw [hwr b hb] at e; cases e
  refine codeAny_forLoop_any (R := fun r s' => match r with | .ok f => Q f s' | .error e => cameBackBy (model prog w) A env E e s')
    (fun k s' => ∃ h' tk m' news' i, s' = { s₁ with heap := h', toks := tk } ∧ ((∃ old, IsEnum h' e it (i : Nat) old) ∧ h'.IsListIter it l i ∧ h'.IsList l vs.toArray) ∧ Fr h₀ env.locals h' m' ∧ News h₀ env.locals h' news' ∧ (∀ p ∈ news', p.1 ∉ [e, it]) ∧ J i m' news' ∧ i ≤ vs.length ∧ k = vs.length + 1 - i) ?_ (vs.length + 1)
    ⟨s₁.heap, s₁.toks, m, news, 0, rfl, ⟨⟨_, he⟩, hit, hl⟩, F, N, hnw, h0, Nat.zero_le _, rfl⟩
  rintro k s' ⟨H, tk, m', news', i, rfl, hst', F', N', ha', hJ, hi, rfl⟩
  have next : ∀ h₁ : Heap, (∀ b o, b ∉ [e, it] → H.get? b = some o → h₁.get? b = some o) → Fr h₀ env.locals h₁ m' ∧ News h₀ env.locals h₁ news' := fun h₁ hk₁ =>
    ⟨⟨F'.ns.at' fun o e => hk₁ _ o hLw e, fun b o e => hk₁ b o (old b o e) (F'.keep b o e), F'.above⟩, fun p hp => ⟨hk₁ _ _ (ha' p hp) (N' p hp).1, (N' p hp).2⟩⟩
  by_cases hlt : i < vs.length
  · refine W.item i _ _ _ hlt hst' fun T vals h₁ tk₁ hPt _ hT hMid hk₁ => ?_
    obtain ⟨t, v, hv, rfl⟩ := hPt
    refine W.go _ x1 pt i T _ _ _ hMid fun h₂ hst₂ hk₂ => ?_
    have ht₂ : h₂.IsTuple T #[.int (i : Int) t, v] := hT.at fun o e => hk₂ T o (W.apart i T h₁ hMid) e
    refine wpAny_assign_Tuple hh ht₂ rfl rfl fun h₃ hx₃ => ?_
    replace hx₃ : Heap.ExtBut h₂.objs.size h₂ h₃ := hx₃
    have up₃ : ∀ b o, h₂.get? b = some o → h₃.get? b = some o := fun b o x => hx₃ b o (Nat.ne_of_lt (Heap.lt_size x)) x
    obtain ⟨F₃, N₃⟩ := next h₃ fun b o hb x => up₃ b o (hk₂ b o hb (hk₁ b o hb x))
    show wpAny _ A (do holding [v] (assign (.Name xi pk) env (.int (i : Int) t)); do holding [] (assign (.Name xc pv) env v); pure ()) _ _ _
    refine wpAny_bind (wpAny_holding (wpAny_assign_Name (wpAny_storeName_local hxi F₃.ns (fun h₄ hn₄ hs₄ => ?_) hp)))
    replace hs₄ : Heap.SameBut env.locals h₃ h₄ := hs₄
    have F₄ := F₃.set hn₄ hs₄
    refine wpAny_bind (wpAny_holding (wpAny_assign_Name (wpAny_storeName_local hxc F₄.ns (fun h₅ hn₅ hs₅ => wpAny_pure ?_) hp)))
    replace hs₅ : Heap.SameBut env.locals h₄ h₅ := hs₅
    have F₅ := F₄.set hn₅ hs₅
    have N₅ : News h₀ env.locals h₅ news' := (N₃.set hs₄).set hs₅
    have hst₅ := W.frame _ _ _ hst₂ fun b hb o e => hs₅.extBut b o (fun q => hLf (q ▸ hb)) (hs₄.extBut b o (fun q => hLf (q ▸ hb)) (up₃ b o e))
    have hIo : ∀ b ∈ [e, it], ∃ o, (b, o) ∈ ownOf h₀ [e, it, l] h₅ := fun b hb => by
      have hn := hwr b hb
      simp only [List.mem_cons, List.not_mem_nil, or_false] at hb
      rcases hb with rfl | rfl
      · obtain ⟨_, ho⟩ := hst₅.1
        exact ⟨_, mem_ownOf (by simp) hn ho⟩
      · obtain ⟨o, ho, _⟩ := hst₅.2.1
        exact ⟨o, mem_ownOf (by simp) hn ho⟩
    have N₆ : News h₀ env.locals h₅ (news' ++ ownOf h₀ [e, it, l] h₅) := fun p hp => (List.mem_append.mp hp).elim (N₅ p) (news_ownOf hLf p)
    refine wpAny_mono (wpAny_passesOwn hE (step i v t m' news' h₅ _ (ownOf h₀ [e, it, l] h₅) (by simpa using hv) hJ ha' ownOf_sub hIo F₅ N₆)) (fun f s₃ h₆ => ?_) fun _ _ e => e
    have fin : ∀ tk₀ : Nat, TurnEnd h₀ env.locals (ownOf h₀ [e, it, l] h₅) [e, it] (J (i + 1)) { s₁ with heap := h₅, toks := tk₀ } s₃ → ∃ m, m < vs.length + 1 - i ∧
        ∃ h' tk m' news' i', s₃ = { s₁ with heap := h', toks := tk } ∧ ((∃ old, IsEnum h' e it (i' : Nat) old) ∧ h'.IsListIter it l i' ∧ h'.IsList l vs.toArray) ∧ Fr h₀ env.locals h' m' ∧ News h₀ env.locals h' news' ∧ (∀ p ∈ news', p.1 ∉ [e, it]) ∧ J i' m' news' ∧ i' ≤ vs.length ∧ m = vs.length + 1 - i' := by
      rintro _ ⟨h₇, tk₇, m₂, news₃, nx, rfl, F₇, N₇, hn, ho, ha, hm⟩
      refine ⟨vs.length + 1 - (i + 1), by omega, h₇, tk₇, m₂, nx, i + 1, rfl, ?_, F₇, fun p hp => N₇ p (hn p hp), ha, hm, hlt, rfl⟩
      refine W.frame _ _ _ hst₅ fun b hb o e => ?_
      cases hn : h₀.get? b with
      | some o₀ =>
        have : o₀ = o := by have q := F₅.keep b o₀ hn; rw [e] at q; exact (Option.some.inj q).symm
        exact this ▸ F₇.keep b o₀ hn
      | none => exact (N₇ _ (ho _ (mem_ownOf hb hn e))).1
    cases f with
    | ret v => exact h₆
    | brk => exact h₆
    | cont => exact fin _ h₆
    | next => exact fin _ h₆
  · have hin : i = vs.length := by omega
    subst hin
    refine W.done _ _ _ hst' fun h₁ tk₁ hk₁ => wpAny_execs_nil ?_
    obtain ⟨F₁, N₁⟩ := next h₁ hk₁
    exact hQ m' news' h₁ tk₁ hJ F₁ N₁

theorem enumLoop {l : Addr} {vs : List Value} {m₀ : Str → Option Value} {news : List (Addr × Obj)} (J : Nat → (Str → Option Value) → List (Addr × Obj) → Prop)
    (hl : s.heap.IsList l vs.toArray) (hlL : l ≠ env.locals) (F : Fr h₀ env.locals s.heap m₀) (N : News h₀ env.locals s.heap news) (hj : J 0 m₀ news)
    (turn : ∀ (i : Nat) v t m₁ news₁ e it h tk own, vs[i]? = some v → J i m₁ news₁ → (∀ p ∈ news₁, p.1 ∉ [e, it]) → (∀ q ∈ own, q.1 ∈ [e, it, l]) → (∀ b ∈ [e, it], ∃ o, (b, o) ∈ own) →
      Fr h₀ env.locals h (fun y => if y = xc then some v else if y = xi then some (.int (i : Int) t) else m₁ y) → News h₀ env.locals h (news₁ ++ own) →
      wpAny (model prog w) A (execs body env) (Turn h₀ env.locals own [e, it] (J (i + 1)) Q { s with heap := h, toks := tk }) E { s with heap := h, toks := tk })
    (done : ∀ m₁ news₁ h tk, J vs.length m₁ news₁ → Fr h₀ env.locals h m₁ → News h₀ env.locals h news₁ → Q .next { s with heap := h, toks := tk }) :
    wpAny (model prog w) A (call (.type "enumerate") [.ref l]) (fun xv s₁ => EnumAt prog w A h₀ env xi xc body Q E xv s₁) E s := by
  obtain ⟨ol, hol, _⟩ := id hl
  have hlt := ltN (Heap.lt_size hol)
  have hLs := ltN F.ns.lt
  have hab : h₀.objs.size ≤ env.locals := F.above
  refine call_enumerate_list hl fun h' he hit hsz hk => ?_
  have F' : Fr h₀ env.locals h' m₀ := ⟨F.ns.keeps hk, fun b o e => hk b o (F.keep b o e), F.above⟩
  have N' : News h₀ env.locals h' news := fun p hp => ⟨hk _ _ (N p hp).1, (N p hp).2⟩
  have hlt' := fun p hp => ltN (Heap.lt_size (N p hp).1)
  refine ⟨_, _, l, vs, m₀, news, J, rfl, neN (by omega), neN (by omega), neN (by omega), ?_, ?_, ?_, he, hit, hl.at fun o e => hk l o e, F', N', hj, fun i v t m₁ news₁ h tk own => turn i v t m₁ news₁ _ _ h tk own, done⟩
  · simp only [List.mem_cons, List.not_mem_nil, or_false, not_or]
    exact ⟨neN (by omega), neN (by omega), Ne.symm hlL⟩
  · intro b hb
    simp only [List.mem_cons, List.not_mem_nil, or_false] at hb
    refine Heap.get?_none_of_le ?_
    rcases hb with hb | hb
    · rw [hb]; exact Nat.le_trans hab (Nat.le_of_lt (Nat.lt_succ_of_lt hLs))
    · rw [hb]; exact Nat.le_trans hab (Nat.le_of_lt hLs)
  · intro p hp
    have := hlt' p hp
    simp only [List.mem_cons, List.not_mem_nil, or_false, not_or]
    exact ⟨neN (by omega), neN (by omega)⟩
end
theorem off_of {wr : List Addr} {own : List (Addr × Obj)} {D : Addr} (h : ∀ b ∈ wr, ∃ o, (b, o) ∈ own) (hd : AllLt D own) : D ∉ wr := fun hD => by
  obtain ⟨o, ho⟩ := h D hD
  have hx : ∀ {l : List (Addr × Obj)}, AllLt D l → (D, o) ∉ l := by
    intro l
    induction l with
    | nil => intro _ h; exact nomatch h
    | cons p r ih =>
      rintro ⟨h1, h2⟩ hm
      rcases List.mem_cons.mp hm with e | hm
      · rw [← e] at h1; exact absurd h1 (Nat.lt_irrefl _)
      · exact ih h2 hm
  exact hx hd ho
theorem off_ne {wr : List Addr} {own : List (Addr × Obj)} {D : Addr} (h : ∀ b ∈ wr, ∃ o, (b, o) ∈ own) (hd : ∀ p ∈ own, p.1 ≠ D) : D ∉ wr := fun hD => by
  obtain ⟨o, ho⟩ := h D hD
  exact hd _ ho rfl
end Mine
end

section
open PySem PySem.W PyProof.Rows
namespace Mine
set_option maxRecDepth 100000
set_option maxHeartbeats 8000000

/-- what holds between the turns: a datum a tells the tracked names (ps), the made objects (W) and R -/
def GenJ {α : Type} (ps : α → List (Str × Value)) (W : α → List (Addr × Obj)) (R : Nat → α → Prop) (xs skip : List Str) (m₀ : Str → Option Value) (rest : List (Addr × Obj)) (i : Nat) (m : Str → Option Value) (nx : List (Addr × Obj)) : Prop :=
  ∃ a, nx = W a ++ rest ∧ (∀ p ∈ ps a, m p.1 = some p.2) ∧ (∀ z, xs.contains z = false → (∀ p ∈ ps a, z ≠ p.1) → skip.contains z = false → m z = m₀ z) ∧ R i a

/-- a turn's end -/
def GenEnd {α : Type} (h₀ : Heap) (L : Addr) (ps : α → List (Str × Value)) (W : α → List (Addr × Obj)) (R : α → Prop) (xs skip : List Str) (m₀ : Str → Option Value) (own : List (Addr × Obj)) (wr : List Addr) (s₁ s₂ : Shared) : Prop :=
  ∃ h' tk m' news' a, s₂ = { s₁ with heap := h', toks := tk } ∧ Fr h₀ L h' m' ∧ News h₀ L h' news' ∧ (∀ p ∈ W a, p ∈ news') ∧ (∀ p ∈ own, p ∈ news') ∧ (∀ p ∈ W a, p.1 ∉ wr) ∧ (∀ p ∈ ps a, m' p.1 = some p.2) ∧ (∀ z, xs.contains z = false → (∀ p ∈ ps a, z ≠ p.1) → skip.contains z = false → m' z = m₀ z) ∧ R a
def GenTurn {α : Type} (h₀ : Heap) (L : Addr) (ps : α → List (Str × Value)) (W : α → List (Addr × Obj)) (R : α → Prop) (xs skip : List Str) (m₀ : Str → Option Value) (own : List (Addr × Obj)) (wr : List Addr) (Q : Flow → Shared → Prop) (s₁ : Shared) (f : Flow) (s₂ : Shared) : Prop :=
  match f with
  | .ret v => Q (.ret v) s₂
  | .brk => Q .next s₂
  | _ => GenEnd h₀ L ps W R xs skip m₀ own wr s₁ s₂
theorem GenEnd.mk {α : Type} {h₀ h' : Heap} {L : Addr} {ps : α → List (Str × Value)} {W : α → List (Addr × Obj)} {R : α → Prop} {xs skip : List Str} {m₀ m' : Str → Option Value} {own news' : List (Addr × Obj)} {wr : List Addr} {s₁ : Shared} {tk : Nat} (a : α)
    (F : Fr h₀ L h' m') (N : News h₀ L h' news') (h1 : ∀ p ∈ W a, p ∈ news') (h2 : ∀ p ∈ own, p ∈ news') (h3 : ∀ p ∈ W a, p.1 ∉ wr) (h4 : ∀ p ∈ ps a, m' p.1 = some p.2) (h5 : ∀ z, xs.contains z = false → (∀ p ∈ ps a, z ≠ p.1) → skip.contains z = false → m' z = m₀ z) (hr : R a) :
    GenEnd h₀ L ps W R xs skip m₀ own wr s₁ { s₁ with heap := h', toks := tk } := ⟨h', tk, m', news', a, rfl, F, N, h1, h2, h3, h4, h5, hr⟩

section
variable {prog : Program} {w : World} {A : Around} {E : Value → Shared → Prop} {s : Shared} {env : Env} {h₀ : Heap} {x xi xc : Str} {body : List Stmt} {Q : Flow → Shared → Prop}

theorem gen_up {α : Type} {L : Addr} {ps : α → List (Str × Value)} {W : α → List (Addr × Obj)} {R : Nat → α → Prop} {xs skip : List Str} {m₀ : Str → Option Value} {rest own : List (Addr × Obj)} {wr : List Addr} {i : Nat} {s₁ s₂ : Shared}
    (hr : ∀ p ∈ rest, p.1 ∉ wr) (h : GenEnd h₀ L ps W (R i) xs skip m₀ (rest ++ own) wr s₁ s₂) : TurnEnd h₀ L own wr (GenJ ps W R xs skip m₀ rest i) s₁ s₂ := by
  obtain ⟨h', tk, m', news', a, e, F, N, h1, h2, h3, h4, h5, h6⟩ := h
  refine ⟨h', tk, m', news', W a ++ rest, e, F, N, ?_, fun p hp => h2 p (List.mem_append_right _ hp), ?_, a, rfl, h4, h5, h6⟩
  · intro p hp
    exact (List.mem_append.mp hp).elim (h1 p) fun q => h2 p (List.mem_append_left _ q)
  · intro p hp
    exact (List.mem_append.mp hp).elim (h3 p) (hr p)
theorem gen_turn {α : Type} {L : Addr} {ps : α → List (Str × Value)} {W : α → List (Addr × Obj)} {R : Nat → α → Prop} {xs skip : List Str} {m₀ : Str → Option Value} {rest own : List (Addr × Obj)} {wr : List Addr} {i : Nat} {s₁ s₂ : Shared} {f : Flow}
    (hr : ∀ p ∈ rest, p.1 ∉ wr) (h : GenTurn h₀ L ps W (R i) xs skip m₀ (rest ++ own) wr Q s₁ f s₂) : Turn h₀ L own wr (GenJ ps W R xs skip m₀ rest i) Q s₁ f s₂ := by
  cases f with
  | ret v => exact h
  | brk => exact h
  | next => exact gen_up hr h
  | cont => exact gen_up hr h

theorem not_x {z x : Str} (h : z ≠ x) : [x].contains z = false := by simpa using h
theorem not_xx {z x y : Str} (h : z ≠ x) (h' : z ≠ y) : [x, y].contains z = false := by simp [h, h']

/-- a for over a list, by a datum -/
theorem loopList {α : Type} {l : Addr} {vs : List Value} {m₀ : Str → Option Value} {rest : List (Addr × Obj)} (ps : α → List (Str × Value)) (W : α → List (Addr × Obj)) (R : Nat → α → Prop) (skip : List Str) (a₀ : α)
    (hh : A.handled = none) (hl : s.heap.IsList l vs.toArray) (hlL : l ≠ env.locals) (F : Fr h₀ env.locals s.heap m₀) (N : News h₀ env.locals s.heap (W a₀ ++ rest)) (hp : ∀ p ∈ ps a₀, m₀ p.1 = some p.2) (h0 : R 0 a₀)
    (turn : ∀ i v a (u : Str → Option Value) I h tk own, vs[i]? = some v → R i a → (∀ p ∈ W a ++ rest, p.1 ∉ [I]) → (∀ q ∈ own, q.1 ∈ [I, l] ∨ q ∈ rest) → (∀ b ∈ [I], ∃ o, (b, o) ∈ own) →
      Fr h₀ env.locals h (fun y => if y = x then some v else kstB (fun z => if skip.contains z then u z else m₀ z) (ps a) y) → News h₀ env.locals h (W a ++ own) → (∀ p ∈ rest, p ∈ own) →
      wpAny (model prog w) A (execs body env) (GenTurn h₀ env.locals ps W (R (i + 1)) [x] skip m₀ own [I] Q { s with heap := h, toks := tk }) E { s with heap := h, toks := tk })
    (done : ∀ a (u : Str → Option Value) h tk, R vs.length a → Fr h₀ env.locals h (fun y => if y = x then u y else kstB (fun z => if skip.contains z then u z else m₀ z) (ps a) y) → News h₀ env.locals h (W a ++ rest) → Q .next { s with heap := h, toks := tk }) :
    wpAny (model prog w) A (pyIter (.ref l)) (fun it s₂ => LoopAtV prog w A h₀ env x body Q E it s₂) E s := by
  refine iterList (GenJ ps W R [x] skip m₀ rest) hh hl hlL F N ⟨a₀, rfl, hp, fun _ _ _ _ => rfl, h0⟩ ?_ ?_
  · rintro i v m₁ nx I h tk own hv ⟨a, rfl, h1, h2, h3⟩ hoff hown hIo F₁ N₁
    rw [List.append_assoc] at N₁
    refine wpAny_mono (turn i v a m₁ I h tk (rest ++ own) hv h3 hoff (fun q hq => (List.mem_append.mp hq).elim .inr fun z => .inl (hown q z)) (fun b hb => let ⟨o, ho⟩ := hIo b hb; ⟨o, List.mem_append_right _ ho⟩) (kst_fr h1 (fun z hz h4 h5 => h2 z (not_x hz) h4 h5) F₁) N₁ fun p hp => List.mem_append_left _ hp) (fun f s₂ q => ?_) fun _ _ e => e
    exact gen_turn (fun p hp => hoff p (List.mem_append_right _ hp)) q
  · rintro m₁ nx h tk ⟨a, rfl, h1, h2, h3⟩ F₁ N₁
    exact done a m₁ h tk h3 (kst_frOut h1 (fun z hz h4 h5 => h2 z (not_x hz) h4 h5) F₁) N₁

/-- a for over a range, by a datum -/
theorem loopRange {α : Type} {r : Addr} {b₀ : Int} {t₀ u₀ v₀ : Tok} {n : Nat} {m₀ : Str → Option Value} {rest : List (Addr × Obj)} (ps : α → List (Str × Value)) (W : α → List (Addr × Obj)) (R : Nat → α → Prop) (skip : List Str) (a₀ : α)
    (hh : A.handled = none) (hr : IsRange s.heap r 0 b₀ 1 t₀ u₀ v₀) (hsmall : Builtin.Range.small 0 b₀ 1 = true) (hn : Builtin.Range.rangeSize 0 b₀ 1 = (n : Int)) (F : Fr h₀ env.locals s.heap m₀) (N : News h₀ env.locals s.heap (W a₀ ++ rest)) (hp : ∀ p ∈ ps a₀, m₀ p.1 = some p.2) (h0 : R 0 a₀)
    (turn : ∀ (i : Nat) t a (u : Str → Option Value) I h tk own, i < n → R i a → (∀ p ∈ W a ++ rest, p.1 ∉ [I]) → (∀ q ∈ own, q.1 ∈ [I] ∨ q ∈ rest) → (∀ b ∈ [I], ∃ o, (b, o) ∈ own) →
      Fr h₀ env.locals h (fun y => if y = x then some (.int (i : Int) t) else kstB (fun z => if skip.contains z then u z else m₀ z) (ps a) y) → News h₀ env.locals h (W a ++ own) → (∀ p ∈ rest, p ∈ own) →
      wpAny (model prog w) A (execs body env) (GenTurn h₀ env.locals ps W (R (i + 1)) [x] skip m₀ own [I] Q { s with heap := h, toks := tk }) E { s with heap := h, toks := tk })
    (done : ∀ a (u : Str → Option Value) h tk, R n a → Fr h₀ env.locals h (fun y => if y = x then u y else kstB (fun z => if skip.contains z then u z else m₀ z) (ps a) y) → News h₀ env.locals h (W a ++ rest) → Q .next { s with heap := h, toks := tk }) :
    wpAny (model prog w) A (pyIter (.ref r)) (fun it s₂ => LoopAtV prog w A h₀ env x body Q E it s₂) E s := by
  refine iterRange (GenJ ps W R [x] skip m₀ rest) hh hr hsmall hn F N ⟨a₀, rfl, hp, fun _ _ _ _ => rfl, h0⟩ ?_ ?_
  · rintro i t m₁ nx I h tk own hv ⟨a, rfl, h1, h2, h3⟩ hoff hown hIo F₁ N₁
    rw [List.append_assoc] at N₁
    refine wpAny_mono (turn i t a m₁ I h tk (rest ++ own) hv h3 hoff (fun q hq => (List.mem_append.mp hq).elim .inr fun z => .inl (hown q z)) (fun b hb => let ⟨o, ho⟩ := hIo b hb; ⟨o, List.mem_append_right _ ho⟩) (kst_fr h1 (fun z hz h4 h5 => h2 z (not_x hz) h4 h5) F₁) N₁ fun p hp => List.mem_append_left _ hp) (fun f s₂ q => ?_) fun _ _ e => e
    exact gen_turn (fun p hp => hoff p (List.mem_append_right _ hp)) q
  · rintro m₁ nx h tk ⟨a, rfl, h1, h2, h3⟩ F₁ N₁
    exact done a m₁ h tk h3 (kst_frOut h1 (fun z hz h4 h5 => h2 z (not_x hz) h4 h5) F₁) N₁

theorem gen_offs {ps : List (Str × Value)} {skip : List Str} {m₀ m₁ : Str → Option Value} {y : Str} (h1 : ∀ p ∈ ps, m₁ p.1 = some p.2) (h2 : (∀ p ∈ ps, y ≠ p.1) → skip.contains y = false → m₁ y = m₀ y) :
    kstB (fun z => if skip.contains z then m₁ z else m₀ z) ps y = m₁ y := by
  refine kstB_eq h1 fun hn => ?_
  show (if skip.contains y = true then m₁ y else m₀ y) = m₁ y
  cases h3 : skip.contains y with
  | true => simp
  | false => simp only [Bool.false_eq_true, if_false]; exact (h2 hn h3).symm

/-- a for over enumerate(list), by a datum -/
theorem loopEnum {α : Type} {l : Addr} {vs : List Value} {m₀ : Str → Option Value} {rest : List (Addr × Obj)} (ps : α → List (Str × Value)) (W : α → List (Addr × Obj)) (R : Nat → α → Prop) (skip : List Str) (a₀ : α)
    (hl : s.heap.IsList l vs.toArray) (hlL : l ≠ env.locals) (F : Fr h₀ env.locals s.heap m₀) (N : News h₀ env.locals s.heap (W a₀ ++ rest)) (hp : ∀ p ∈ ps a₀, m₀ p.1 = some p.2) (h0 : R 0 a₀)
    (turn : ∀ (i : Nat) v t a (u : Str → Option Value) e it h tk own, vs[i]? = some v → R i a → (∀ p ∈ W a ++ rest, p.1 ∉ [e, it]) → (∀ q ∈ own, q.1 ∈ [e, it, l] ∨ q ∈ rest) → (∀ b ∈ [e, it], ∃ o, (b, o) ∈ own) →
      Fr h₀ env.locals h (fun y => if y = xc then some v else if y = xi then some (.int (i : Int) t) else kstB (fun z => if skip.contains z then u z else m₀ z) (ps a) y) → News h₀ env.locals h (W a ++ own) → (∀ p ∈ rest, p ∈ own) →
      wpAny (model prog w) A (execs body env) (GenTurn h₀ env.locals ps W (R (i + 1)) [xc, xi] skip m₀ own [e, it] Q { s with heap := h, toks := tk }) E { s with heap := h, toks := tk })
    (done : ∀ a (u : Str → Option Value) h tk, R vs.length a → Fr h₀ env.locals h (fun y => if y = xc then u y else if y = xi then u y else kstB (fun z => if skip.contains z then u z else m₀ z) (ps a) y) → News h₀ env.locals h (W a ++ rest) → Q .next { s with heap := h, toks := tk }) :
    wpAny (model prog w) A (call (.type "enumerate") [.ref l]) (fun xv s₁ => EnumAt prog w A h₀ env xi xc body Q E xv s₁) E s := by
  refine enumLoop (GenJ ps W R [xc, xi] skip m₀ rest) hl hlL F N ⟨a₀, rfl, hp, fun _ _ _ _ => rfl, h0⟩ ?_ ?_
  · rintro i v t m₁ nx e it h tk own hv ⟨a, rfl, h1, h2, h3⟩ hoff hown hIo F₁ N₁
    rw [List.append_assoc] at N₁
    have em : (fun y => if y = xc then some v else if y = xi then some (.int (i : Int) t) else kstB (fun z => if skip.contains z then m₁ z else m₀ z) (ps a) y) = fun y => if y = xc then some v else if y = xi then some (.int (i : Int) t) else m₁ y := by
      funext y
      by_cases hc : y = xc
      · rw [if_pos hc, if_pos hc]
      · rw [if_neg hc, if_neg hc]
        by_cases hi : y = xi
        · rw [if_pos hi, if_pos hi]
        · rw [if_neg hi, if_neg hi]
          exact gen_offs h1 fun h4 h5 => h2 y (not_xx hc hi) h4 h5
    refine wpAny_mono (turn i v t a m₁ e it h tk (rest ++ own) hv h3 hoff (fun q hq => (List.mem_append.mp hq).elim .inr fun z => .inl (hown q z)) (fun b hb => let ⟨o, ho⟩ := hIo b hb; ⟨o, List.mem_append_right _ ho⟩) (em ▸ F₁) N₁ fun p hp => List.mem_append_left _ hp) (fun f s₂ q => ?_) fun _ _ e => e
    exact gen_turn (fun p hp => hoff p (List.mem_append_right _ hp)) q
  · rintro m₁ nx h tk ⟨a, rfl, h1, h2, h3⟩ F₁ N₁
    have em : (fun y => if y = xc then m₁ y else if y = xi then m₁ y else kstB (fun z => if skip.contains z then m₁ z else m₀ z) (ps a) y) = m₁ := by
      funext y
      by_cases hc : y = xc
      · rw [if_pos hc]
      · rw [if_neg hc]
        by_cases hi : y = xi
        · rw [if_pos hi]
        · rw [if_neg hi]
          exact gen_offs h1 fun h4 h5 => h2 y (not_xx hc hi) h4 h5
    exact done a m₁ h tk h3 (em.symm ▸ F₁) N₁

def WEnd {α : Type} (h₀ : Heap) (L : Addr) (ps : α → List (Str × Value)) (W : α → List (Addr × Obj)) (R : Nat → α → Prop) (skip : List Str) (m₀ : Str → Option Value) (rest : List (Addr × Obj)) (n : Nat) (s₁ : Shared) (f : Flow) (s₂ : Shared) : Prop :=
  f = .next ∧ ∃ n', n' < n ∧ GenEnd h₀ L ps W (R n') [] skip m₀ rest [] s₁ s₂
theorem WEnd.mk {α : Type} {L : Addr} {ps : α → List (Str × Value)} {W : α → List (Addr × Obj)} {R : Nat → α → Prop} {skip : List Str} {m₀ : Str → Option Value} {rest : List (Addr × Obj)} {n : Nat} {s₁ s₂ : Shared} (n' : Nat) (hn : n' < n) (h : GenEnd h₀ L ps W (R n') [] skip m₀ rest [] s₁ s₂) : WEnd h₀ L ps W R skip m₀ rest n s₁ .next s₂ := ⟨rfl, n', hn, h⟩
/-- a while, by a datum and a measure -/
theorem loopWhile {α : Type} {test : Expr} {pos : Pos} {m₀ : Str → Option Value} {rest : List (Addr × Obj)} (ps : α → List (Str × Value)) (W : α → List (Addr × Obj)) (R : Nat → α → Prop) (skip : List Str) (a₀ : α) (n₀ : Nat)
    (F : Fr h₀ env.locals s.heap m₀) (N : News h₀ env.locals s.heap (W a₀ ++ rest)) (hp : ∀ p ∈ ps a₀, m₀ p.1 = some p.2) (h0 : R n₀ a₀)
    (turn : ∀ n a (u : Str → Option Value) h tk, R n a → Fr h₀ env.locals h (kstB (fun z => if skip.contains z then u z else m₀ z) (ps a)) → News h₀ env.locals h (W a ++ rest) →
      wpAny (model prog w) A (isTrue test env (eval test env)) (fun b s₂ =>
        if b = true then wpAny (model prog w) A (execs body env) (WEnd h₀ env.locals ps W R skip m₀ rest n { s with heap := h, toks := tk }) E s₂ else Q .next s₂) E { s with heap := h, toks := tk })
    (hE : PassesOwn (model prog w) A env E) :
    wpAny (model prog w) A (exec (.While test body [] pos) env) Q E s := by
  refine While_inv (fun n m nx => GenJ ps W R [] skip m₀ rest n m nx) (n₀ := n₀) F N ⟨a₀, rfl, hp, fun _ _ _ _ => rfl, h0⟩ ?_ hE
  rintro n m₁ nx h tk F₁ N₁ ⟨a, rfl, h1, h2, h3⟩
  have em : kstB (fun z => if skip.contains z then m₁ z else m₀ z) (ps a) = m₁ := by
    funext y
    exact gen_offs h1 fun h4 h5 => h2 y rfl h4 h5
  refine wpAny_mono (turn n a m₁ h tk h3 (em.symm ▸ F₁) N₁) (fun b s₂ q => ?_) fun _ _ e => e
  cases b with
  | false => simpa using q
  | true =>
    simp only [if_true] at q ⊢
    refine wpAny_mono q (fun f s₃ z => ?_) fun _ _ e => e
    obtain ⟨rfl, n', hn, h', tk', m', news', a', e, F', N', k1, k2, k3, k4, k5, k6⟩ := z
    subst e
    exact ⟨rfl, h', tk', m', W a' ++ rest, n', rfl, F', fun p hp => N' p ((List.mem_append.mp hp).elim (k1 p) (k2 p)), hn, a', rfl, k4, k5, k6⟩
end
end Mine
namespace Mine
theorem accEnd {h₀ h' : Heap} {L l : Addr} {R : Array Value × Nat → Prop} {xs skip : List Str} {m₀ m' : Str → Option Value} {own : List (Addr × Obj)} {wr : List Addr} {s₁ : Shared} {tk n : Nat} {us : Array Value}
    (F : Fr h₀ L h' m') (N : News h₀ L h' ((l, listOf us n) :: own)) (hI : l ∉ wr) (h5 : ∀ z, xs.contains z = false → skip.contains z = false → m' z = m₀ z) (hr : R (us, n)) :
    GenEnd h₀ L (fun _ => []) (fun a => [(l, listOf a.1 a.2)]) R xs skip m₀ own wr s₁ { s₁ with heap := h', toks := tk } :=
  GenEnd.mk (us, n) F N (fun p hp => by rw [List.mem_singleton.mp hp]; exact .head _) (fun p hp => .tail _ hp) (fun p hp => by rw [List.mem_singleton.mp hp]; exact hI) (fun _ h => nomatch h) (fun z h1 _ h2 => h5 z h1 h2) hr
end Mine
namespace Mine
theorem strEnd {h₀ h' : Heap} {L : Addr} {nm : Str} {R : Str × Tok → Prop} {xs skip : List Str} {m₀ m' : Str → Option Value} {own news' : List (Addr × Obj)} {wr : List Addr} {s₁ : Shared} {tk : Nat} {y : Str} {t : Tok}
    (F : Fr h₀ L h' m') (N : News h₀ L h' news') (ho : ∀ p ∈ own, p ∈ news') (hm : m' nm = some (.str y t)) (h5 : ∀ z, xs.contains z = false → z ≠ nm → skip.contains z = false → m' z = m₀ z) (hr : R (y, t)) :
    GenEnd h₀ L (fun a : Str × Tok => [(nm, .str a.1 a.2)]) (fun _ => []) R xs skip m₀ own wr s₁ { s₁ with heap := h', toks := tk } :=
  GenEnd.mk (y, t) F N (fun _ h => nomatch h) ho (fun _ h => nomatch h) (fun p hp => by rw [List.mem_singleton.mp hp]; exact hm) (fun z h1 h2 h3 => h5 z h1 (h2 (nm, .str y t) (by simp)) h3) hr
end Mine
end

section
open PySem PySem.W PyProof.Rows
namespace Mine
set_option maxRecDepth 100000
set_option maxHeartbeats 8000000
/-- entering a def that has cells -/
theorem enterC {w : World} {f : Addr} {args : List Value} {d u : Nat} {pre : Heap → Prop} {post : Heap → Value → Heap → Prop}
    {name qual : Str} {params : Arguments} {body : List Stmt} {scope : Scope} {dV kV doc pm cdv ct oc : Value} {an od : Option Addr} {osl : Array (Option Value)} (binds : List (Str × Value))
    (ho : (hd.heap_39 w.params).lookup f = some ⟨oc, od, .func (fnOf name qual params body scope dV kV doc pm an cdv ct), osl⟩) (hcd : codeIn (hd.heap_39 w.params) cdv qual = true)
    (hbind : ∀ s, BindsTo s (fnOf name qual params body scope dV kV doc pm an cdv ct) ⟨args, []⟩ binds)
    (hkind : (binds.all fun y => scope.names.lookup y.1 == some .local || scope.names.lookup y.1 == some .cell) = true) (hnd : ((cellsFrom 0 scope.names []).map (·.1)).Nodup)
    (h : ∀ (dp : Nat) (outer : List Env) (gd : Option (List Code)) (un : Nat) (base h₀ : Heap) (s : Shared) (L : Addr) (cells : List (Addr × Obj))
      (mean : ExcName → Option Value) (mg mb : Str → Option Value),
      Below (Arnd dp outer gd un) base outer h₀ → (hd.heap_39 w.params).In h₀ → Top hd.view_39 (looseW hd.view_39 []) mean mg mb h₀ → dp + d < recursionLimit → un + u < cLine → pre h₀ →
      Fr h₀ L s.heap (bindL (envOfC qual scope L f cdv).kindOf binds fun _ => none) → News h₀ L s.heap cells → CellsAre (bindC (envOfC qual scope L f cdv).kindOf binds fun _ => none) (cellsFrom (L + 1) scope.names []) cells →
      wpAny (model PySem.Challenge.rw_pd0056_01.row.prog w) ((Arnd dp outer gd un).deeper (envOfC qual scope L f cdv)) (execs body (envOfC qual scope L f cdv)) (Back h₀ s post) (fun _ _ => False) s)
    (hd : 0 < d)
    (hco : scope.isCoroutine = false) (hgen : scope.isGenerator = false) (hk : scope.kind = .function) : Spec w f args d u pre post := by
  intro dp outer gd un base s Q E mean mg mb B X T hdp hun hpre hQ
  refine wpAny_call ?_
  refine codeAny_call_function (fd := fnOf name qual params body scope dV kV doc pm an cdv ct) (body := body) (by show dp < _; omega) (X _ _ ho) rfl hco hgen rfl (codeRec_of X hcd) (hbind s _ _ _ _ ?_)
  refine wpAny_newFunctionEnv_cells hk (kindsX hkind _) fun env' he s' x => ?_
  subst he
  refine ⟨(T.nolimit).keeps x.toInCall.keep, codeAny_func ?_⟩
  obtain ⟨h₁, tk, rfl, _⟩ := x.done
  have hk₁ := x.toInCall.keep
  obtain ⟨cells, NC, Y⟩ := Cl.news (h₀ := s.heap) (Nat.le_refl _) fun n c hm => ⟨x.cell n c (lookup_of_mem_nodup (cellsFrom_names scope.names 0 (s.heap.objs.size + 1) [] [] rfl ▸ hnd) hm), x.above n c hm⟩
  refine wpAny_mono (h dp outer gd un base s.heap { s with heap := h₁, toks := tk } s.heap.objs.size cells mean mg mb B X T hdp hun hpre ⟨x.toInCall.ns, hk₁, Nat.le_refl _⟩ NC Y) (fun fl s' hl => ?_) fun _ _ y => y.elim
  obtain ⟨hst, h', tk', rfl, hp⟩ := hl
  exact hQ _ h' tk' hst hp
/-- a call inside any frame, by its contract -/
theorem Spec.useX {w : World} {f : Addr} {args : List Value} {d u : Nat} {pre : Heap → Prop} {post : Heap → Value → Heap → Prop} (S : Spec w f args d u pre post)
    {dp un k : Nat} {outer : List Env} {gd : Option (List Code)} {base h₀ : Heap} {s : Shared} {L : Addr} {m mg mb : Str → Option Value} {mean : ExcName → Option Value} {env : Env}
    {Q : Value → Shared → Prop} {E : Value → Shared → Prop}
    (B : Below (Arnd dp outer gd un) base outer h₀) (X : (hd.heap_39 w.params).In h₀) (T : Top hd.view_39 (looseW hd.view_39 []) mean mg mb h₀) (F : Fr h₀ L s.heap m) (hf : env.frame = some L) (hk : env.scope.kind = .function)
    (hdp : dp + 1 + d < recursionLimit) (hun : un + 3 + k + u < cLine) (hpre : pre s.heap)
    (h : ∀ v h' tk, Fr h₀ L h' m → s.heap.StaysIn h' → post s.heap v h' → Q v { s with heap := h', toks := tk }) :
    wpAny (model PySem.Challenge.rw_pd0056_01.row.prog w) (Arnd (dp + 1) (env :: outer) gd (un + 3 + k)) (call (.ref f) args) Q E s := by
  have B' := pushX B F hf hk
  exact S (dp + 1) (env :: outer) gd (un + 3 + k) base s Q E mean mg mb ⟨rfl, B'.stays, B'.frames⟩ (X.keeps F.keep) (T.keeps F.keep) hdp hun hpre fun v h' tk st hp => h v h' tk (Fr.stays F st) st hp
end Mine
end

section
open PySem PySem.W PyProof.Rows
namespace Mine
open PySem.Builtin PySem.Builtin.Str PySem.StrLaws

def fnd (x y : Str) (hi : Nat) : Int := match occurrences x y 0 hi 1 with | i :: _ => (i : Int) | [] => -1
def rfnd (x y : Str) (hi : Nat) : Int := match lastOccurrence x y 0 hi with | some i => (i : Int) | none => -1

theorem gives_find4 (x y : Str) (e : Int) (t u v v' : Tok) (he : 0 ≤ e) : Gives («str.find» ⟨[.str x t, .str y u, .int 0 v, .int e v'], []⟩) (.int (fnd x y (min e.toNat x.length))) := by
  have h0 : (max 0 (if e < 0 then e + x.length else e)) = e := by rw [if_neg (by omega)]; omega
  show Gives (match occurrences x y 0 (min (max 0 (if e < 0 then e + x.length else e)).toNat x.length) 1 with | k :: _ => retInt k | [] => (do rule "str.find.not-found"; retInt (-1))) _
  rw [h0]
  unfold fnd
  cases occurrences x y 0 (min e.toNat x.length) 1 with
  | nil => exact .rule (.of_eq rfl)
  | cons k _ => exact .of_eq rfl
theorem gives_rfind4 (x y : Str) (e : Int) (t u v v' : Tok) (he : 0 ≤ e) : Gives («str.rfind» ⟨[.str x t, .str y u, .int 0 v, .int e v'], []⟩) (.int (rfnd x y (min e.toNat x.length))) := by
  have h0 : (max 0 (if e < 0 then e + x.length else e)) = e := by rw [if_neg (by omega)]; omega
  show Gives (match lastOccurrence x y 0 (min (max 0 (if e < 0 then e + x.length else e)).toNat x.length) with | some k => retInt k | none => (do rule "str.rfind.not-found"; retInt (-1))) _
  rw [h0]
  unfold rfnd
  cases lastOccurrence x y 0 (min e.toNat x.length) with
  | none => exact .rule (.of_eq rfl)
  | some k => exact .of_eq rfl

section
variable {prog : Program} {w : World} {A : Around} {E : Value → Shared → Prop} {s : Shared} {x y : Str} {t u v v' : Tok} {e : Int} {Q : Value → Shared → Prop}
theorem call_find4 (he : 0 ≤ e) (hq : Q (.int (fnd x y (min e.toNat x.length)) s.toks) { s with toks := s.toks + 1 }) : wpAny (model prog w) A (call (.builtin "str.find") [.str x t, .str y u, .int 0 v, .int e v']) Q E s :=
  call_gives F.slot_str_find (typeIs_str _ _ _) F.entry_str_find (F.args_str_find_4 _ _ _ _) (gives_find4 x y e t u v v' he) hq
theorem call_rfind4 (he : 0 ≤ e) (hq : Q (.int (rfnd x y (min e.toNat x.length)) s.toks) { s with toks := s.toks + 1 }) : wpAny (model prog w) A (call (.builtin "str.rfind") [.str x t, .str y u, .int 0 v, .int e v']) Q E s :=
  call_gives F.slot_str_rfind (typeIs_str _ _ _) F.entry_str_rfind (F.args_str_rfind_4 _ _ _ _) (gives_rfind4 x y e t u v v' he) hq
end

theorem at_one {x : Str} {c i hi : Nat} (hh : hi ≤ x.length) : At x ⟨#[c]⟩ hi i ↔ i < hi ∧ x.cps.toList[i]? = some c := by
  have h := subAt_one x c i
  unfold At
  constructor
  · rintro ⟨h1, h2⟩
    have h1' : i + 1 ≤ hi := h1
    exact ⟨by omega, h.mp ⟨by show i + 1 ≤ _; omega, h2⟩⟩
  · rintro ⟨h1, h2⟩
    exact ⟨by show i + 1 ≤ _; omega, (h.mpr h2).2⟩

theorem fnd_spec (x : Str) (c hi : Nat) (hh : hi ≤ x.length) : (fnd x ⟨#[c]⟩ hi = -1 ∧ ∀ k, k < hi → x.cps.toList[k]? ≠ some c) ∨ ∃ k : Nat, k < hi ∧ fnd x ⟨#[c]⟩ hi = k ∧ x.cps.toList[k]? = some c ∧ ∀ j, j < k → x.cps.toList[j]? ≠ some c := by
  unfold fnd
  rw [occ_eq]
  rcases occ_first x ⟨#[c]⟩ hi 1 (Nat.le_refl _) (List.range' 0 (hi + 1 - 0)) 0 (fun _ _ => Nat.zero_le _) with ⟨h0, hn⟩ | ⟨pre, a, post, e, h0, ha, hn⟩
  · refine .inl ⟨by rw [h0], fun k hk hc => ?_⟩
    exact hn k (by simp [List.mem_range']; omega) ((at_one hh).mpr ⟨hk, hc⟩)
  · have h1 := (at_one hh).mp ha
    refine .inr ⟨a, h1.1, ?_, h1.2, fun j hj hc => hn j (range'_split e j hj) ((at_one hh).mpr ⟨by omega, hc⟩)⟩
    generalize (forIn (List.range' 0 (hi + 1 - 0)) ((#[] : Array Nat), 0) (occBody x ⟨#[c]⟩ hi 1)).run.fst = arr at h0
    have h1 : arr.toList[0]? = some a := by simpa using h0
    cases hL : arr.toList with
    | nil => rw [hL] at h1; cases h1
    | cons b t => rw [hL] at h1; simp at h1; simp [h1]

theorem rfnd_spec (x : Str) (c hi : Nat) (hh : hi ≤ x.length) : (rfnd x ⟨#[c]⟩ hi = -1 ∧ ∀ k, k < hi → x.cps.toList[k]? ≠ some c) ∨ ∃ k : Nat, k < hi ∧ rfnd x ⟨#[c]⟩ hi = k ∧ x.cps.toList[k]? = some c ∧ ∀ j, k < j → j < hi → x.cps.toList[j]? ≠ some c := by
  unfold rfnd
  rw [last_eq]
  have key := last_run x ⟨#[c]⟩ hi (List.range' 0 (hi + 1 - 0)) [] none (fun _ h => nomatch h) (fun _ h => nomatch h) (by simpa using List.pairwise_lt_range' (s := 0) (n := hi + 1 - 0))
  have mem : ∀ i, At x ⟨#[c]⟩ hi i → i ∈ [] ++ List.range' 0 (hi + 1 - 0) := fun i hi => by have := hi.1; simp [List.mem_range'] <;> omega
  cases hr : (forIn (List.range' 0 (hi + 1 - 0)) none (lastBody x ⟨#[c]⟩ hi)).run with
  | none => rw [hr] at key; exact .inl ⟨rfl, fun k hk hc => have hA := (at_one hh).mpr ⟨hk, hc⟩; key k (mem k hA) hA⟩
  | some a =>
    rw [hr] at key
    have h1 := (at_one hh).mp key.1
    exact .inr ⟨a, h1.1, rfl, h1.2, fun j hj hjh hc => have hA := (at_one hh).mpr ⟨hjh, hc⟩; key.2 j (mem j hA) hj hA⟩

theorem find_fnd (x y : Str) : Txt.find x y = fnd x y x.length := rfl
theorem rfind_rfnd (x y : Str) : Txt.rfind x y = rfnd x y x.length := rfl
end Mine
end

section
open PySem PySem.W PyProof.Rows
namespace Mine
open PySem.Builtin PySem.Builtin.Str PySem.StrLaws

abbrev tl (x : Str) : List Nat := x.cps.toList
abbrev one (c : Nat) : Str := ⟨#[c]⟩
theorem tl_app (a b : Str) : tl (a ++ b) = tl a ++ tl b := by show (a.cps ++ b.cps).toList = _; simp
theorem str_ext {a b : Str} (h : tl a = tl b) : a = b := Str.ext' (Array.toList_inj.mp h)
theorem tl_len (x : Str) : x.length = (tl x).length := by simp [Str.length]
theorem tl_one (c : Nat) : tl (one c) = [c] := rfl
theorem tl_mk (l : List Nat) : tl (⟨l.toArray⟩ : Str) = l := rfl

theorem join_cons (sep x : Str) {ps : List Str} (h : ps ≠ []) : Str.join sep (x :: ps) = x ++ sep ++ Str.join sep ps := by
  cases ps with
  | nil => exact absurd rfl h
  | cons y r => rfl
theorem join_snoc (sep n : Str) : ∀ {ps : List Str}, ps ≠ [] → Str.join sep (ps ++ [n]) = Str.join sep ps ++ sep ++ n
  | [], h => absurd rfl h
  | [x], _ => rfl
  | x :: y :: r, _ => by
    have ih := join_snoc sep n (ps := y :: r) (by simp)
    have e : x :: y :: r ++ [n] = x :: (y :: r ++ [n]) := rfl
    rw [e, join_cons sep x (by simp), ih, join_cons sep x (by simp)]
    simp only [Str.append_assoc]
theorem join_mem (sep : Str) : ∀ (ps : List Str) (c : Nat), c ∈ tl (Str.join sep ps) → c ∈ tl sep ∨ ∃ p ∈ ps, c ∈ tl p
  | [], c, h => by simp [Str.join, tl, Str.empty] at h
  | [x], c, h => .inr ⟨x, by simp, h⟩
  | x :: y :: r, c, h => by
    rw [join_cons sep x (by simp), tl_app, tl_app] at h
    simp only [List.mem_append] at h
    rcases h with (h | h) | h
    · exact .inr ⟨x, by simp, h⟩
    · exact .inl h
    · rcases join_mem sep (y :: r) c h with h | ⟨p, hp, hc⟩
      · exact .inl h
      · exact .inr ⟨p, List.mem_cons_of_mem _ hp, hc⟩

/-- no dot, colon, line end in it -/
def Bare (p : Str) : Prop := ∀ c ∈ tl p, c ≠ 46 ∧ c ≠ 58 ∧ c ≠ 10
/-- what may stand behind a name -/
def Detail (d : Str) : Prop := tl d = [] ∨ ∃ r, tl d = 10 :: r ∨ tl d = 58 :: r

theorem lit_nl : Str.ofString "\n" = one 10 := by decide +kernel
theorem lit_colon : Str.ofString ":" = one 58 := by decide +kernel
theorem lit_dot : Str.ofString "." = one 46 := by decide +kernel
theorem lit_slash : Str.ofString "/" = one 47 := by decide +kernel

theorem get_left {a b : List Nat} {k : Nat} (h : k < a.length) : (a ++ b)[k]? = a[k]? := List.getElem?_append_left h
theorem ne_of_bare {l : List Nat} {c k : Nat} (h : c ∉ l) : l[k]? ≠ some c := fun e => h (List.mem_of_getElem? e)

theorem fnd_spec1 (x : Str) (c hi : Nat) (hh : hi ≤ x.length) : (fnd x (one c) hi = -1 ∧ ∀ k, k < hi → (tl x)[k]? ≠ some c) ∨ ∃ k : Nat, k < hi ∧ fnd x (one c) hi = k ∧ (tl x)[k]? = some c ∧ ∀ j, j < k → (tl x)[j]? ≠ some c := fnd_spec x c hi hh
theorem rfnd_spec1 (x : Str) (c hi : Nat) (hh : hi ≤ x.length) : (rfnd x (one c) hi = -1 ∧ ∀ k, k < hi → (tl x)[k]? ≠ some c) ∨ ∃ k : Nat, k < hi ∧ rfnd x (one c) hi = k ∧ (tl x)[k]? = some c ∧ ∀ j, k < j → j < hi → (tl x)[j]? ≠ some c := rfnd_spec x c hi hh

theorem strip_end {x p d : Str} (hx : x = p ++ d) (hp : ∀ c ∈ tl p, c ≠ 58 ∧ c ≠ 10) (hd : Detail d) {r1 r2 : Int}
    (h1 : 0 ≤ fnd x (one 10) x.length ∧ r1 = fnd x (one 10) x.length ∨ ¬ 0 ≤ fnd x (one 10) x.length ∧ r1 = x.length)
    (h2 : 0 ≤ fnd x (one 58) (min r1.toNat x.length) ∧ r2 = fnd x (one 58) (min r1.toNat x.length) ∨ ¬ 0 ≤ fnd x (one 58) (min r1.toNat x.length) ∧ r2 = r1) : r2 = p.length := by
  have hl : tl x = tl p ++ tl d := by rw [hx, tl_app]
  have hlen : x.length = p.length + d.length := by rw [hx, Str.length_append]
  have hpl : p.length = (tl p).length := tl_len p
  have hdl : d.length = (tl d).length := tl_len d
  have n10 : 10 ∉ tl p := fun h => (hp _ h).2 rfl
  have n58 : 58 ∉ tl p := fun h => (hp _ h).1 rfl
  have lft : ∀ k, k < p.length → (tl x)[k]? = (tl p)[k]? := fun k hk => by rw [hl]; exact get_left (by omega)
  have rgt : ∀ k, p.length ≤ k → (tl x)[k]? = (tl d)[k - p.length]? := fun k hk => by rw [hl, List.getElem?_append_right (by omega), hpl]
  have s1 := fnd_spec1 x 10 x.length (Nat.le_refl _)
  have s2 := fnd_spec1 x 58 (min r1.toNat x.length) (by omega)
  -- what stands at the end of p
  have at10 : ∀ k : Nat, (tl x)[k]? = some 10 → p.length ≤ k := fun k hk => by
    rcases Nat.lt_or_ge k p.length with h | h
    · rw [lft k h] at hk; exact absurd hk (ne_of_bare n10)
    · exact h
  have at58 : ∀ k : Nat, (tl x)[k]? = some 58 → p.length ≤ k := fun k hk => by
    rcases Nat.lt_or_ge k p.length with h | h
    · rw [lft k h] at hk; exact absurd hk (ne_of_bare n58)
    · exact h
  rcases hd with hd | ⟨r, hd | hd⟩
  · have hd0 : d.length = 0 := by rw [hdl, hd]; rfl
    rcases s1 with ⟨e1, _⟩ | ⟨k, hk, e1, hc, _⟩
    · rcases s2 with ⟨e2, _⟩ | ⟨k, hk, e2, hc, _⟩
      · omega
      · have := at58 k hc; omega
    · have := at10 k hc; omega
  · have h10 : (tl x)[p.length]? = some 10 := by rw [rgt _ (Nat.le_refl _), hd]; simp
    have hd1 : d.length = r.length + 1 := by rw [hdl, hd]; rfl
    rcases s1 with ⟨e1, hn⟩ | ⟨k, hk, e1, hc, hn⟩
    · exact absurd h10 (hn p.length (by omega))
    · have hk1 := at10 k hc
      have hk2 : ¬ p.length < k := fun h => hn _ h h10
      rcases s2 with ⟨e2, _⟩ | ⟨j, hj, e2, hc, _⟩
      · omega
      · have := at58 j hc; omega
  · have h58 : (tl x)[p.length]? = some 58 := by rw [rgt _ (Nat.le_refl _), hd]; simp
    have hd1 : d.length = r.length + 1 := by rw [hdl, hd]; rfl
    have hr1 : (p.length : Int) + 1 ≤ r1 := by
      rcases s1 with ⟨e1, hn⟩ | ⟨k, hk, e1, hc, hn⟩
      · omega
      · have hk1 := at10 k hc
        have : k ≠ p.length := fun h => by rw [h, h58] at hc; cases hc
        omega
    clear s1
    rcases s2 with ⟨e2, hn⟩ | ⟨j, hj, e2, hc, hn⟩
    · exact absurd h58 (hn p.length (by omega))
    · have hj1 := at58 j hc
      have hj2 : ¬ p.length < j := fun h => hn _ h h58
      omega

theorem strip_start {x p d : Str} (hx : x = p ++ d) {ps : List Str} {n : Str} (hpp : p = Str.join (one 46) (ps ++ [n])) (hn : 46 ∉ tl n) {st : Int}
    (h : 0 ≤ rfnd x (one 46) (min (p.length : Int).toNat x.length) ∧ st = rfnd x (one 46) (min (p.length : Int).toNat x.length) + 1 ∨ ¬ 0 ≤ rfnd x (one 46) (min (p.length : Int).toNat x.length) ∧ st = 0) :
    Txt.slice x (some st) (some (p.length : Int)) = n := by
  have hlen : x.length = p.length + d.length := by rw [hx, Str.length_append]
  have hpl : p.length = (tl p).length := tl_len p
  have hl : tl x = tl p ++ tl d := by rw [hx, tl_app]
  have e0 : min (p.length : Int).toNat x.length = p.length := by omega
  rw [e0] at h
  have s := rfnd_spec1 x 46 p.length (by omega)
  have hnl : n.length = (tl n).length := tl_len n
  -- the place of the name
  have key : ∃ q : List Nat, tl p = q ++ tl n ∧ st = q.length := by
    by_cases hps : ps = []
    · subst hps
      have hpn : p = n := hpp
      refine ⟨[], by rw [hpn]; rfl, ?_⟩
      rcases s with ⟨e, _⟩ | ⟨k, hk, e, hc, _⟩
      · simp; omega
      · exfalso
        rw [hl, get_left (by omega), hpn] at hc
        exact ne_of_bare hn hc
    · have hpq : tl p = (tl (Str.join (one 46) ps) ++ [46]) ++ tl n := by rw [hpp, join_snoc _ _ hps, tl_app, tl_app]
      refine ⟨_, hpq, ?_⟩
      have hll : (tl p).length = (tl (Str.join (one 46) ps)).length + 1 + (tl n).length := by rw [hpq]; simp only [List.length_append, List.length_cons, List.length_nil]
      have hdot : (tl x)[(tl (Str.join (one 46) ps)).length]? = some 46 := by
        rw [hl, hpq, List.append_assoc, List.append_assoc, List.getElem?_append_right (Nat.le_refl _)]; simp
      rcases s with ⟨e, hno⟩ | ⟨k, hk, e, hc, hno⟩
      · exact absurd hdot (hno _ (by omega))
      · have h1 : ¬ k < (tl (Str.join (one 46) ps)).length := fun hlt => hno _ hlt (by omega) hdot
        have h2 : ¬ (tl (Str.join (one 46) ps)).length < k := fun hlt => by
          rw [hl, hpq, List.append_assoc, List.getElem?_append_right (by simp only [List.length_append, List.length_cons, List.length_nil]; omega)] at hc
          rw [get_left (by simp only [List.length_append, List.length_cons, List.length_nil]; omega)] at hc
          exact ne_of_bare hn hc
        simp only [List.length_append, List.length_cons, List.length_nil]
        omega
  obtain ⟨q, hq, hst⟩ := key
  have hqn : (tl p).length = q.length + (tl n).length := by rw [hq]; simp only [List.length_append]
  have hsl : Txt.slice x (some st) (some (p.length : Int)) = sliceText x (some st) (some (p.length : Int)) := rfl
  rw [hsl, sliceText_plain ⟨by omega, by omega, by have := tl_len x; show _ ≤ ((tl x).length : Int); omega⟩]
  apply str_ext
  show ((tl x).drop st.toNat).take ((p.length : Int) - st).toNat = tl n
  have e1 : st.toNat = q.length := by omega
  have e2 : ((p.length : Int) - st).toNat = (tl n).length := by omega
  rw [e1, e2, hl, hq, List.append_assoc, List.drop_left, List.take_left]
end Mine
namespace Mine
theorem strip_all {x p d : Str} (hx : x = p ++ d) (hp : ∀ c ∈ tl p, c ≠ 58 ∧ c ≠ 10) (hd : Detail d) {ps : List Str} {n : Str} (hpp : p = Str.join (one 46) (ps ++ [n])) (hn : 46 ∉ tl n) {r1 r2 st : Int}
    (h1 : 0 ≤ Txt.find x (one 10) ∧ r1 = Txt.find x (one 10) ∨ ¬ 0 ≤ Txt.find x (one 10) ∧ r1 = x.length)
    (h2 : 0 ≤ fnd x (one 58) (min r1.toNat x.length) ∧ r2 = fnd x (one 58) (min r1.toNat x.length) ∨ ¬ 0 ≤ fnd x (one 58) (min r1.toNat x.length) ∧ r2 = r1)
    (h3 : 0 ≤ rfnd x (one 46) (min r2.toNat x.length) ∧ st = rfnd x (one 46) (min r2.toNat x.length) + 1 ∨ ¬ 0 ≤ rfnd x (one 46) (min r2.toNat x.length) ∧ st = 0) : Txt.slice x (some st) (some r2) = n := by
  have e := strip_end hx hp hd h1 h2
  subst e
  exact strip_start hx hpp hn h3
end Mine
end

section
open PySem PySem.W PyProof.Rows
set_option maxRecDepth 100000
namespace Mine
open PySem.Calls
theorem kind_isn : builtinKind "issubclass.nested" = none := by decide +kernel
theorem plain_isn : plainId "issubclass.nested" = true := by decide +kernel
theorem args_isn (a b c : Value) : argsOk "issubclass.nested" ⟨[a, b, c], []⟩ := by unfold argsOk; kernel_rfl
theorem sub_str : isSubtype (.type "str") (.type "str") = pure true := by rw [isSubtype_type]; kernel_rfl
theorem isn_str (dep : Int) (tk : Tok) : Meets (Builtin.«issubclass.nested» ⟨[.type "str", .type "str", .int dep tk], []⟩) (fun _ R s => R (.ok (.ret (.bool true))) s) := by
  intro prog w A R s h
  have f1 := sub_str
  repeat (any_goals (first | assumption | (rw [f1]) | wp_step))
section
variable {prog : Program} {w : World} {A : Around} {E : Value → Shared → Prop} {s : Shared}
theorem isn_tuple {tp : Addr} {tk : Tok} {cs rest : List Value} {Q : Fin → Shared → Prop} (hcs : cs = Value.type "str" :: rest) (htp : s.heap.get? tp = some { cls := .type "tuple", data := .seq cs.toArray })
    (hq : Q (.done (.ret (.bool true))) s) : wpAny (model prog w) A (Builtin.«issubclass.nested» ⟨[.type "str", .ref tp, .int 0 tk], []⟩) Q E s := by
  obtain ⟨h, g, d, t, os⟩ := s
  have hT2 : (⟨h, g, d, t, os⟩ : Shared).TypeIs (.ref tp) "tuple" := ⟨_, htp, rfl⟩
  have f1 := F.isi_sub_tuple
  repeat (any_goals (first | assumption | wp_step))
  refine wpAny_arrayLoop ?_
  simp only [Option.getD_some, List.toList_toArray]
  subst hcs
  rw [List.forIn_cons]
  refine wpAny_bind (wpAny_bind (call_function_meets kind_isn plain_isn F.entry_issubclass_nested (args_isn _ _ _) (isn_str _ _) ?_))
  show wpAny _ _ (truthy (.bool true) >>= _) _ _ _
  refine wpAny_bind (m := truthy (.bool true)) (wpAny_pure ?_)
  exact wpAny_bind (wpAny_pure (wpAny_pure (wpAny_pure (wpAny_pure hq))))
theorem call_issub {tp : Addr} {rest : List Value} {Q : Value → Shared → Prop} (htp : s.heap.get? tp = some { cls := .type "tuple", data := .seq (Value.type "str" :: rest).toArray }) (hq : Q (.bool true) s) :
    wpAny (model prog w) A (call (.builtin "issubclass") [.type "str", .ref tp]) Q E s :=
  call_issubclass (S := fun _ R s => s.heap.get? tp = some { cls := .type "tuple", data := .seq (Value.type "str" :: rest).toArray } ∧ R (.ok (.ret (.bool true))) s)
    (fun _ _ _ _ _ hs => issubclass_outer (isn_tuple rfl hs.1 hs.2)) ⟨htp, hq⟩
end
end Mine
end

section
open PySem PySem.W PyProof.Rows
namespace Mine
open PySem.Builtin PySem.Builtin.Str PySem.StrLaws

theorem slice_to (a b : Str) : Txt.slice (a ++ b) none (some (a.length : Int)) = a := by
  have hl := tl_len a
  have hx : (tl (a ++ b)).length = (tl a).length + (tl b).length := by rw [tl_app, List.length_append]
  show sliceText (a ++ b) none (some (a.length : Int)) = a
  rw [sliceText_to ⟨by omega, by show _ ≤ ((tl (a ++ b)).length : Int); omega⟩]
  apply str_ext
  show ((tl (a ++ b)).drop 0).take ((a.length : Int) - 0).toNat = tl a
  have e : ((a.length : Int) - 0).toNat = (tl a).length := by omega
  rw [e, tl_app, List.drop_zero, List.take_left]
theorem slice_from (a b : Str) : Txt.slice (a ++ b) (some (a.length : Int)) none = b := by
  have hl := tl_len a
  have hx : (tl (a ++ b)).length = (tl a).length + (tl b).length := by rw [tl_app, List.length_append]
  show sliceText (a ++ b) (some (a.length : Int)) none = b
  rw [sliceText_from ⟨by omega, by show _ ≤ ((tl (a ++ b)).length : Int); omega⟩]
  apply str_ext
  show ((tl (a ++ b)).drop (a.length : Int).toNat).take (((tl (a ++ b)).length : Int) - (a.length : Int)).toNat = tl b
  have e : (a.length : Int).toNat = (tl a).length := by omega
  have e2 : (((tl (a ++ b)).length : Int) - (a.length : Int)).toNat = (tl b).length := by omega
  rw [e, e2, tl_app, List.drop_left, List.take_length]

/-- a path from the root -/
def PP (cs : List Str) : Str := one 47 ++ Str.join (one 47) cs
def Comp (c : Str) : Prop := tl c ≠ [] ∧ 47 ∉ tl c
def AA (ds : List Str) : Str := if ds = [] then Str.empty else PP ds

theorem PP_nil : PP [] = one 47 := rfl
theorem PP_snoc (ds : List Str) (n : Str) : PP (ds ++ [n]) = AA ds ++ one 47 ++ n := by
  unfold AA
  split
  · rename_i h; subst h; rw [Str.empty_append]; rfl
  · rename_i h; unfold PP; rw [join_snoc _ _ h]; simp only [Str.append_assoc]

theorem rfind_last (a n : Str) (hn : 47 ∉ tl n) : Txt.rfind (a ++ one 47 ++ n) (one 47) = a.length := by
  have hal := tl_len a
  have hnl := tl_len n
  have hlen : (a ++ one 47 ++ n).length = a.length + 1 + n.length := by rw [Str.length_append, Str.length_append]; rfl
  have htl : tl (a ++ one 47 ++ n) = tl a ++ ([47] ++ tl n) := by rw [tl_app, tl_app, List.append_assoc]
  have hat : (tl (a ++ one 47 ++ n))[a.length]? = some 47 := by rw [htl, hal, List.getElem?_append_right (Nat.le_refl _)]; simp
  rw [rfind_rfnd]
  rcases rfnd_spec1 (a ++ one 47 ++ n) 47 (a ++ one 47 ++ n).length (Nat.le_refl _) with ⟨_, h⟩ | ⟨k, hk, e, hc, h⟩
  · exact absurd hat (h _ (by omega))
  · have h1 : ¬ k < a.length := fun q => h _ q (by omega) hat
    have h2 : ¬ a.length < k := fun q => by
      rw [htl, List.getElem?_append_right (by omega), List.getElem?_append_right (by simp only [List.length_cons, List.length_nil]; omega)] at hc
      exact ne_of_bare hn hc
    omega

theorem head_at (a n : Str) (hn : 47 ∉ tl n) : Txt.slice (a ++ one 47 ++ n) none (some (Txt.rfind (a ++ one 47 ++ n) (one 47) + 1)) = a ++ one 47 := by
  have h := slice_to (a ++ one 47) n
  rw [rfind_last a n hn]
  have e : ((a ++ one 47).length : Int) = (a.length : Int) + 1 := by rw [Str.length_append]; rfl
  rw [e] at h; exact h
theorem tail_at (a n : Str) (hn : 47 ∉ tl n) : Txt.slice (a ++ one 47 ++ n) (some (Txt.rfind (a ++ one 47 ++ n) (one 47) + 1)) none = n := by
  have h := slice_from (a ++ one 47) n
  rw [rfind_last a n hn]
  have e : ((a ++ one 47).length : Int) = (a.length : Int) + 1 := by rw [Str.length_append]; rfl
  rw [e] at h; exact h

/-- the last sign of a path that is not the root's -/
theorem PP_last {ds : List Str} (hd : ds ≠ []) (hc : ∀ c ∈ ds, Comp c) : ∃ r c, tl (PP ds) = r ++ [c] ∧ c ≠ 47 := by
  obtain ⟨es, n, rfl⟩ : ∃ es n, ds = es ++ [n] := ⟨ds.dropLast, ds.getLast hd, (List.dropLast_concat_getLast hd).symm⟩
  have hn := hc n (by simp)
  obtain ⟨q, c, hq⟩ : ∃ q c, tl n = q ++ [c] := ⟨(tl n).dropLast, (tl n).getLast hn.1, (List.dropLast_concat_getLast hn.1).symm⟩
  refine ⟨tl (AA es ++ one 47) ++ q, c, ?_, fun e => ?_⟩
  · rw [PP_snoc, tl_app, hq, List.append_assoc]
  · apply hn.2; rw [hq, e]; simp

theorem rstrip_one {a : Str} {r : List Nat} {c : Nat} (ha : tl a = r ++ [c]) (hc : c ≠ 47) : Txt.rstripChars (a ++ one 47) (one 47) = a := by
  have hal := tl_len a
  have hlen : (a ++ one 47).length = a.length + 1 := by rw [Str.length_append]; rfl
  have htl : tl (a ++ one 47) = r ++ [c, 47] := by rw [tl_app, ha]; simp [tl_one]
  have hg : ∀ k, (one 47).cps.contains k = (k == 47) := fun k => by simp [Bool.beq_eq_decide_eq]
  have ht : (((tl (a ++ one 47)).drop 0).reverse.takeWhile (one 47).cps.contains).length = 1 := by
    rw [htl, List.drop_zero]
    simp only [List.reverse_append, List.reverse_cons, List.reverse_nil, List.nil_append, List.cons_append]
    rw [List.takeWhile_cons_of_pos (by rw [hg]; rfl), List.takeWhile_cons_of_neg (by rw [hg]; simpa using hc)]
    rfl
  have hhi : stripHi (one 47).cps.contains true (a ++ one 47) (stripLo (one 47).cps.contains false (a ++ one 47)) = a.length := by
    show (a ++ one 47).length - (((tl (a ++ one 47)).drop 0).reverse.takeWhile (one 47).cps.contains).length = a.length
    rw [ht]; omega
  unfold Txt.rstripChars Txt.stripBy
  rw [if_neg]
  · unfold PySem.stripped
    rw [hhi]
    apply str_ext
    refine (strSub_toList (a ++ one 47) 0 a.length).trans ?_
    show ((tl (a ++ one 47)).drop 0).take (a.length - 0) = tl a
    rw [List.drop_zero, tl_app, hal, Nat.sub_zero, List.take_left]
  · unfold stripSame
    rw [hhi, hlen]
    simp

theorem mul_all (n : Int) : ∀ c ∈ tl (Txt.mul (one 47) n), c = 47 := by
  intro c hc
  have : tl (Txt.mul (one 47) n) = List.replicate n.toNat 47 := mul_one_list 47 n
  rw [this] at hc
  exact (List.mem_replicate.mp hc).2

/-- dirname's and split's head -/
theorem dir_strip {ds : List Str} (hc : ∀ c ∈ ds, Comp c) (h : (AA ds ++ one 47 != Txt.mul (one 47) ((AA ds ++ one 47).length : Int)) = true) : Txt.rstripChars (AA ds ++ one 47) (one 47) = PP ds := by
  by_cases hd : ds = []
  · subst hd
    exfalso
    have : (AA [] ++ one 47 != Txt.mul (one 47) ((AA [] ++ one 47).length : Int)) = false := by decide +kernel
    rw [this] at h; cases h
  · obtain ⟨r, c, hr, hne⟩ := PP_last hd hc
    unfold AA
    rw [if_neg hd]
    exact rstrip_one hr hne
theorem dir_same {ds : List Str} (hc : ∀ c ∈ ds, Comp c) (h : (AA ds ++ one 47 != Txt.mul (one 47) ((AA ds ++ one 47).length : Int)) = false) : AA ds ++ one 47 = PP ds := by
  by_cases hd : ds = []
  · subst hd; rfl
  · exfalso
    obtain ⟨r, c, hr, hne⟩ := PP_last hd hc
    have e : AA ds ++ one 47 = Txt.mul (one 47) ((AA ds ++ one 47).length : Int) := by simpa using h
    refine hne (mul_all ((AA ds ++ one 47).length : Int) c ?_)
    rw [← e, tl_app]
    unfold AA
    rw [if_neg hd, hr]
    simp
theorem dir_ne (ds : List Str) : (AA ds ++ one 47).length ≠ 0 := by
  rw [Str.length_append]; show _ + 1 ≠ 0; omega
end Mine
namespace Mine
open PySem.Builtin PySem.Builtin.Str PySem.StrLaws
theorem starts_not {b : Str} (hb : Comp b) : Txt.startswith b (one 47) = false := by
  cases h : Txt.startswith b (one 47) with
  | false => rfl
  | true =>
    exfalso
    unfold Txt.startswith at h
    simp only [Bool.and_eq_true, decide_eq_true_eq] at h
    have := (subAt_one b 47 0).mp ⟨h.1, h.2⟩
    exact ne_of_bare hb.2 this
theorem ends_iff (x : Str) : Txt.endswith x (one 47) = true ↔ ∃ r, tl x = r ++ [47] := by
  have hl := tl_len x
  unfold Txt.endswith
  simp only [Bool.and_eq_true, decide_eq_true_eq]
  have h1 : (one 47).length = 1 := rfl
  constructor
  · rintro ⟨h, h2⟩
    have := (subAt_one x 47 (x.length - (one 47).length)).mp ⟨by show x.length - 1 + 1 ≤ _; omega, h2⟩
    have hne : tl x ≠ [] := by intro e; rw [e] at hl; simp at hl; omega
    refine ⟨(tl x).dropLast, ?_⟩
    have h3 : (tl x).getLast hne = 47 := by
      rw [List.getLast_eq_getElem]
      have h4 : x.length - (one 47).length = (tl x).length - 1 := by omega
      rw [h4] at this
      exact (List.getElem?_eq_some_iff.mp this).2
    rw [← h3]
    exact (List.dropLast_concat_getLast hne).symm
  · rintro ⟨r, hr⟩
    have hlr : (tl x).length = r.length + 1 := by rw [hr]; simp
    refine ⟨by omega, ?_⟩
    refine ((subAt_one x 47 _).mpr ?_).2
    show (tl x)[x.length - 1]? = some 47
    have e : x.length - 1 = r.length := by omega
    rw [hr, e]; simp
theorem ends_root : Txt.endswith (PP []) (one 47) = true := (ends_iff _).mpr ⟨[], rfl⟩
theorem ends_not {ds : List Str} (hd : ds ≠ []) (hc : ∀ c ∈ ds, Comp c) : Txt.endswith (PP ds) (one 47) = false := by
  cases h : Txt.endswith (PP ds) (one 47) with
  | false => rfl
  | true =>
    exfalso
    obtain ⟨r, hr⟩ := (ends_iff _).mp h
    obtain ⟨q, c, hq, hne⟩ := PP_last hd hc
    rw [hq] at hr
    have := List.append_inj_right' hr rfl
    simp at this
    exact hne this
theorem join_root {ds : List Str} {b : Str} (hc : ∀ c ∈ ds, Comp c) (h : Txt.endswith (PP ds) (one 47) = true) : PP ds ++ b = PP (ds ++ [b]) := by
  by_cases hd : ds = []
  · subst hd; rfl
  · rw [ends_not hd hc] at h; cases h
theorem join_more {ds : List Str} {b : Str} (h : Txt.endswith (PP ds) (one 47) = false) : PP ds ++ (one 47 ++ b) = PP (ds ++ [b]) := by
  by_cases hd : ds = []
  · subst hd; rw [ends_root] at h; cases h
  · rw [PP_snoc]; unfold AA; rw [if_neg hd, Str.append_assoc]
theorem PP_pos (ds : List Str) : (PP ds).length ≠ 0 := by unfold PP; rw [Str.length_append]; show 1 + _ ≠ 0; omega
end Mine
end

section
open PySem PySem.W PyProof.Rows
namespace Mine
open PySem.Builtin PySem.Builtin.Str PySem.StrLaws

theorem join_first {cs : List Str} (hne : cs ≠ []) (hc : ∀ c ∈ cs, Comp c) : ∃ c r, tl (Str.join (one 47) cs) = c :: r ∧ c ≠ 47 := by
  cases cs with
  | nil => exact absurd rfl hne
  | cons a r =>
    have ha := hc a (by simp)
    obtain ⟨c, q, hq⟩ : ∃ c q, tl a = c :: q := by
      cases h : tl a with
      | nil => exact absurd h ha.1
      | cons c q => exact ⟨c, q, rfl⟩
    have hc47 : c ≠ 47 := fun e => ha.2 (by rw [hq, e]; simp)
    cases r with
    | nil => exact ⟨c, q, hq, hc47⟩
    | cons b r =>
      refine ⟨c, q ++ tl (one 47) ++ tl (Str.join (one 47) (b :: r)), ?_, hc47⟩
      rw [join_cons _ _ (by simp), tl_app, tl_app, hq]
      simp

theorem sr1 (cs : List Str) : Txt.slice (PP cs) none (some 1) = one 47 := slice_to (one 47) (Str.join (one 47) cs)
theorem sr3 (cs : List Str) : Txt.slice (PP cs) (some 1) none = Str.join (one 47) cs := slice_from (one 47) (Str.join (one 47) cs)
theorem sr2 {cs : List Str} (hc : ∀ c ∈ cs, Comp c) : Txt.slice (PP cs) (some 1) (some 2) ≠ one 47 := by
  by_cases hne : cs = []
  · subst hne
    have : (Txt.slice (PP []) (some 1) (some 2) != one 47) = true := by decide +kernel
    simpa using this
  · obtain ⟨c, r, hr, h47⟩ := join_first hne hc
    have htl : tl (PP cs) = 47 :: c :: r := by unfold PP; rw [tl_app, hr]; rfl
    intro e
    have hs : Txt.slice (PP cs) (some 1) (some 2) = sliceText (PP cs) (some 1) (some 2) := rfl
    rw [hs, sliceText_plain ⟨by omega, by omega, by show _ ≤ ((tl (PP cs)).length : Int); rw [htl]; simp only [List.length_cons]; omega⟩] at e
    have e2 : ((tl (PP cs)).drop (1 : Int).toNat).take ((2 : Int) - 1).toNat = [47] := congrArg tl e
    rw [htl] at e2
    have e3 : [c] = [47] := e2
    simp at e3
    exact h47 e3

/-- the parts of a joined text -/
theorem split_first (c : Nat) : ∀ {a b : List Nat} {p q : List Nat}, c ∉ a → c ∉ p → a ++ c :: b = p ++ c :: q → a = p ∧ b = q
  | [], b, [], q, _, _, h => ⟨rfl, by simpa using h⟩
  | [], b, y :: p, q, _, hp, h => by
    exfalso
    simp at h
    exact hp (by rw [← h.1]; simp)
  | x :: a, b, [], q, ha, _, h => by
    exfalso
    simp at h
    exact ha (by rw [h.1]; simp)
  | x :: a, b, y :: p, q, ha, hp, h => by
    simp only [List.cons_append, List.cons.injEq] at h
    obtain ⟨h1, h2⟩ := split_first c (fun q => ha (List.mem_cons_of_mem _ q)) (fun q => hp (List.mem_cons_of_mem _ q)) h.2
    exact ⟨by rw [h.1, h1], h2⟩
theorem join_inj (c : Nat) : ∀ (ps qs : List Str), ps ≠ [] → qs ≠ [] → (∀ p ∈ ps, c ∉ tl p) → (∀ q ∈ qs, c ∉ tl q) → Str.join (one c) ps = Str.join (one c) qs → ps = qs
  | [], _, h, _, _, _, _ => absurd rfl h
  | _, [], _, h, _, _, _ => absurd rfl h
  | [p], [q], _, _, _, _, e => by rw [show p = q from e]
  | [p], q :: q2 :: qs, _, _, hp, _, e => by
    exfalso
    rw [join_cons _ q (by simp)] at e
    apply hp p (by simp)
    rw [show p = _ from e, tl_app, tl_app]
    simp
  | p :: p2 :: ps, [q], _, _, _, hq, e => by
    exfalso
    rw [join_cons _ p (by simp)] at e
    apply hq q (by simp)
    rw [show q = _ from e.symm, tl_app, tl_app]
    simp
  | p :: p2 :: ps, q :: q2 :: qs, _, _, hp, hq, e => by
    rw [join_cons _ p (by simp), join_cons _ q (by simp)] at e
    have e2 := congrArg tl e
    rw [tl_app, tl_app, tl_app, tl_app, tl_one, List.append_assoc, List.append_assoc] at e2
    obtain ⟨h1, h2⟩ := split_first c (hp p (by simp)) (hq q (by simp)) e2
    have h3 := join_inj c (p2 :: ps) (q2 :: qs) (by simp) (by simp) (fun x hx => hp x (List.mem_cons_of_mem _ hx)) (fun x hx => hq x (List.mem_cons_of_mem _ hx)) (str_ext h2)
    rw [str_ext h1, h3]
theorem split_ne (x y : Str) : Txt.split x y ≠ [] := by
  unfold Txt.split
  split
  · simp
  · split
    · simp
    · rw [partsBetween_eq]
      obtain ⟨p, r, e⟩ := partsFrom_ne x y.length 0 (occurrences x y 0 x.length (x.length + 1))
      rw [e]; simp
theorem split_join (c : Nat) {ps : List Str} (hne : ps ≠ []) (hp : ∀ p ∈ ps, c ∉ tl p) : Txt.split (Str.join (one c) ps) (one c) = ps :=
  join_inj c _ _ (split_ne _ _) hne (split_free _ c) hp (join_split _ _)

/-- the normal form's step -/
def nstep (acc : List Str) (c : Str) : List Str := if c = Str.ofString "." then acc else if c = Str.ofString ".." then acc.dropLast else acc ++ [c]
def norm (cs : List Str) : List Str := cs.foldl nstep []
end Mine
end

section
open PySem PySem.W PyProof.Rows
namespace Mine
open PySem.Builtin PySem.Builtin.Str PySem.StrLaws

theorem strs_values : ∀ (l : List (Str × Tok)), StrsAre (strValues l) (l.map (·.1))
  | [] => .nil
  | (x, t) :: r => .cons x t (strs_values r)
theorem strs_of : ∀ {vs : List Value} {ys : List Str}, StrsAre vs ys → ∃ l : List (Str × Tok), strValues l = vs ∧ l.map (·.1) = ys
  | _, _, .nil => ⟨[], rfl, rfl⟩
  | _, _, .cons y t h => let ⟨l, h1, h2⟩ := strs_of h; ⟨(y, t) :: l, by rw [← h1]; rfl, by rw [← h2]; rfl⟩
/-- the weight of a list of texts -/
def weight (ys : List Str) : Nat := (ys.map (·.length)).sum + ys.length
theorem join_ok {sep : Str} {ys : List Str} (h1 : sep.length ≤ 1) (h : weight ys ≤ 100000) : JoinOk sep ys = true := by
  unfold JoinOk
  rw [joinTotal]
  unfold weight at h
  have h2 : ys.length * sep.length ≤ ys.length := by
    have := Nat.mul_le_mul_left ys.length h1
    omega
  have h3 : tooLong ((ys.map (·.length)).sum + ys.length * sep.length) = false := by
    unfold tooLong
    have : sizeLine = 16777216 := by decide
    simp only [decide_eq_false_iff_not]
    omega
  rw [h3]; rfl

theorem last_of : ∀ (l : List Value) (hne : l ≠ []), kl_last l = some (l.dropLast, l.getLast hne)
  | [], h => absurd rfl h
  | [_], _ => rfl
  | a :: b :: r, _ => by
    have ih := last_of (b :: r) (by simp)
    unfold kl_last
    rw [ih]
    simp
section
variable {prog : Program} {w : World} {A : Around} {E : Value → Shared → Prop} {s : Shared} {h₀ : Heap} {L : Addr} {m : Str → Option Value} {news : List (Addr × Obj)}

theorem split_strs {x y : Str} {t u : Tok} {ys : List Str} {Q : Value → Shared → Prop} (F : Fr h₀ L s.heap m) (N : News h₀ L s.heap news) (e : Txt.split x y = ys) (hy : (y.length == 0) = false) (hsz : x.length ≤ 4096)
    (h : ∀ D vs h' k, StrsAre vs.toList ys → (∀ p ∈ news, p.1 < D) → Fr h₀ L h' m → News h₀ L h' ((D, listOf vs 0) :: news) → Q (.ref D) { s with heap := h', toks := k }) :
    wpAny (model prog w) A (call (.builtin "str.split") [.str x t, .str y u]) Q E s := by
  refine splitN1 (hsz := by have : sizeLine = 16777216 := by decide
                            omega) F N hy fun l h' k hl F' N' => ?_
  exact h _ (strValues l).toArray h' k (by rw [List.toList_toArray, ← e, ← hl]; exact strs_values l) (fun p hp => Heap.lt_size (N p hp).1) F' N'

theorem join_strs {l : Addr} {vs : Array Value} {ys : List Str} {sep : Str} {t : Tok} {Q : Value → Shared → Prop} (hl : s.heap.IsList l vs) (hi : StrsAre vs.toList ys) (h1 : sep.length ≤ 1) (hw : weight ys ≤ 100000)
    (h : ∀ t' k, Q (.str (Str.join sep ys) t') { s with toks := k }) : wpAny (model prog w) A (call (.builtin "str.join") [.str sep t, .ref l]) Q E s := by
  obtain ⟨k, h2, h3⟩ := strs_of hi
  refine SC.join (l := k) (texts := ys) (by rw [h2]; simpa using hl) h3 (join_ok h1 hw) ?_
  have e : Txt.join sep ys = Str.join sep ys := glued_eq_join sep ys
  rw [e]
  exact h

theorem size_strs {vs : Array Value} {ys : List Str} (hi : StrsAre vs.toList ys) : vs.size = ys.length := by
  have := StrsAre.length hi
  simpa using this

theorem truthy_strs {l : Addr} {vs : Array Value} {ys : List Str} {Q : Bool → Shared → Prop} (hl : s.heap.IsList l vs) (hi : StrsAre vs.toList ys) (hn : ys.length ≤ 100000)
    (h : ∀ k, Q (!ys.isEmpty) { s with toks := k }) : wpAny (model prog w) A (truthy (.ref l)) Q E s := by
  have hs := size_strs hi
  refine wpAny_truthy_list hl (by omega) ?_
  have e : (!vs.isEmpty) = !ys.isEmpty := by
    unfold Array.isEmpty
    rw [hs]
    cases ys with
    | nil => rfl
    | cons y r => simp
  rw [e]
  exact h _

theorem len_strs {l : Addr} {vs : Array Value} {ys : List Str} {Q : Value → Shared → Prop} (hl : s.heap.IsList l vs) (hi : StrsAre vs.toList ys) (hn : ys.length ≤ 100000)
    (h : ∀ t k, Q (.int ys.length t) { s with toks := k }) : wpAny (model prog w) A (call (.builtin "len") [.ref l]) Q E s := by
  have hs := size_strs hi
  refine len_list hl (by omega) ?_
  rw [hs]
  exact h _ _

theorem list_toArray {l : Addr} {vs : Array Value} {h : Heap} (hl : h.IsList l vs) : h.IsList l vs.toList.toArray := by simpa using hl

theorem item_strs {value slice : Expr} {l : Addr} {vs : Array Value} {ys : List Str} {k : Int} {u : Tok} {Q : Value → Shared → Prop} (hl : s.heap.IsList l vs) (hi : StrsAre vs.toList ys)
    (h0 : 0 ≤ k) (hk : k < ys.length) (hn : ys.length ≤ 100000) (h : ∀ t, Q (.str (ys.getD k.toNat Str.empty) t) s)
    (hs : subscripted slice false (.ref l) (.int k u) = operate [.ref l, .int k u] (getItem (.ref l) (.int k u))) :
    wpAny (model prog w) A (subscriptTail value slice (.ref l) (.int k u)) Q E s := item_strsR (list_toArray hl) hi h0 hk (by omega) h hs
theorem item_last {value slice : Expr} {l : Addr} {vs : Array Value} {ys : List Str} {u : Tok} {Q : Value → Shared → Prop} (hl : s.heap.IsList l vs) (hi : StrsAre vs.toList ys)
    (h0 : ys.isEmpty = false) (h : ∀ t (h1 : ys ≠ []), Q (.str (ys.getLast h1) t) s)
    (hs : subscripted slice false (.ref l) (.int (-1) u) = operate [.ref l, .int (-1) u] (getItem (.ref l) (.int (-1) u))) :
    wpAny (model prog w) A (subscriptTail value slice (.ref l) (.int (-1) u)) Q E s := by
  have h1 : ys ≠ [] := by intro e; rw [e] at h0; cases h0
  have hp : 0 < ys.length := List.length_pos_iff.mpr h1
  refine item_strs_negR (list_toArray hl) hi (by omega) (by omega) (by omega) (fun t => ?_) hs
  have e : (-1 + (ys.length : Int)).toNat = ys.length - 1 := by omega
  rw [e, List.getD_eq_getElem?_getD, List.getElem?_eq_getElem (by omega), Option.getD_some, ← List.getLast_eq_getElem h1]
  exact h t h1

theorem pop_strs {D : Addr} {vs : Array Value} {n : Nat} {ys : List Str} {news' : List (Addr × Obj)} {Q : Value → Shared → Prop} (F : Fr h₀ L s.heap m) (N : News h₀ L s.heap news) (hi : StrsAre vs.toList ys) (h0 : ys.isEmpty = false) (hn : ys.length ≤ 100000)
    (U : Upd D (listOf vs n) (listOf vs.pop (n + 1)) news news')
    (h : ∀ v h', Fr h₀ L h' m → News h₀ L h' news' → Q v { s with heap := h' }) : wpAny (model prog w) A (call (.builtin "list.pop") [.ref D]) Q E s := by
  have hs := size_strs hi
  have h1 : ys ≠ [] := by intro e; rw [e] at h0; cases h0
  have hp : 0 < ys.length := List.length_pos_iff.mpr h1
  have hne : vs.toList ≠ [] := fun e => by have := StrsAre.length hi; rw [e] at this; simp at this; omega
  have e : kl_last vs.toList = some (vs.toList.dropLast, vs.toList.getLast hne) := last_of _ hne
  have e2 : vs.toList.dropLast.toArray = vs.pop := by apply Array.toList_inj.mp; simp
  refine kl_pop F N e (e2 ▸ U) (by have : sizeLine = 16777216 := by decide
                                   simp; omega) (h _)
end
end Mine
end

section
open PySem PySem.W PyProof.Rows
namespace Mine

theorem weight_nil : weight [] = 0 := rfl
theorem weight_cons (y : Str) (ys : List Str) : weight (y :: ys) = y.length + 1 + weight ys := by unfold weight; simp only [List.map_cons, List.sum_cons, List.length_cons]; omega
theorem weight_app (xs ys : List Str) : weight (xs ++ ys) = weight xs + weight ys := by
  induction xs with
  | nil => simp [weight_nil]
  | cons x r ih => rw [List.cons_append, weight_cons, weight_cons, ih]; omega
theorem weight_len (ys : List Str) : ys.length ≤ weight ys := by unfold weight; omega
theorem weight_join (c : Nat) : ∀ {cs : List Str}, cs ≠ [] → weight cs = (Str.join (one c) cs).length + 1
  | [], h => absurd rfl h
  | [x], _ => by rw [weight_cons, weight_nil]; show _ = x.length + 1; omega
  | x :: y :: r, _ => by
    have ih := weight_join c (cs := y :: r) (by simp)
    rw [weight_cons, ih, join_cons _ x (by simp), Str.length_append, Str.length_append]
    have : (one c).length = 1 := rfl
    omega
theorem weight_PP (cs : List Str) : weight cs ≤ (PP cs).length := by
  by_cases h : cs = []
  · subst h; exact Nat.zero_le _
  · rw [weight_join 47 h]; unfold PP; rw [Str.length_append]
    have : (one 47).length = 1 := rfl
    omega
theorem PP_weight (cs : List Str) : (PP cs).length ≤ weight cs + 1 := by
  by_cases h : cs = []
  · subst h; decide
  · rw [weight_join 47 h]; unfold PP; rw [Str.length_append]
    have : (one 47).length = 1 := rfl
    omega
theorem weight_dropLast (ys : List Str) : weight ys.dropLast ≤ weight ys := by
  by_cases h : ys = []
  · subst h; exact Nat.le_refl _
  · have := weight_app ys.dropLast [ys.getLast h]
    rw [List.dropLast_concat_getLast h] at this
    omega

def stepN (acc : List Str) (c : Str) : List Str := if c = Str.empty then acc else nstep acc c
theorem stepN_weight (acc : List Str) (c : Str) : weight (stepN acc c) ≤ weight acc + weight [c] := by
  unfold stepN nstep
  have := weight_dropLast acc
  (repeat' split) <;> (try rw [weight_app]) <;> omega
theorem foldN_weight : ∀ (cs acc : List Str), weight (cs.foldl stepN acc) ≤ weight acc + weight cs
  | [], acc => by simp [weight_nil]
  | c :: r, acc => by
    rw [List.foldl_cons]
    have h1 := foldN_weight r (stepN acc c)
    have h2 := stepN_weight acc c
    have h3 := weight_app [c] r
    rw [List.singleton_append] at h3
    omega
theorem foldN_dots : ∀ (cs acc : List Str), (∀ x ∈ acc, x ≠ Str.ofString "..") → ∀ x ∈ cs.foldl stepN acc, x ≠ Str.ofString ".."
  | [], _, h => h
  | c :: r, acc, h => by
    rw [List.foldl_cons]
    refine foldN_dots r _ ?_
    unfold stepN nstep
    intro x hx
    split at hx
    · exact h x hx
    · split at hx
      · exact h x hx
      · split at hx
        · exact h x (List.dropLast_subset _ hx)
        · rename_i hc
          rcases List.mem_append.mp hx with hx | hx
          · exact h x hx
          · rw [List.mem_singleton.mp hx]; exact hc
theorem foldN_eq : ∀ (cs acc : List Str), (∀ c ∈ cs, Comp c) → cs.foldl stepN acc = cs.foldl nstep acc
  | [], _, _ => rfl
  | c :: r, acc, h => by
    have hc : c ≠ Str.empty := fun e => (h c (by simp)).1 (by rw [e]; rfl)
    rw [List.foldl_cons, List.foldl_cons]
    have : stepN acc c = nstep acc c := by unfold stepN; rw [if_neg hc]
    rw [this]
    exact foldN_eq r _ fun x hx => h x (List.mem_cons_of_mem _ hx)
def parts (cs : List Str) : List Str := if cs = [] then [Str.empty] else cs
theorem parts_split {cs : List Str} (hc : ∀ c ∈ cs, Comp c) : Txt.split (Str.join (one 47) cs) (one 47) = parts cs := by
  unfold parts
  split
  · rename_i h; subst h; decide +kernel
  · rename_i h; exact split_join 47 h fun p hp => (hc p hp).2
theorem parts_norm {cs : List Str} (hc : ∀ c ∈ cs, Comp c) : (parts cs).foldl stepN [] = norm cs := by
  unfold parts
  split
  · rename_i h; subst h; rfl
  · exact foldN_eq cs [] hc
theorem parts_weight (cs : List Str) : weight (parts cs) ≤ (PP cs).length := by
  unfold parts
  split
  · rename_i h; subst h; decide
  · exact weight_PP cs
theorem join_le_PP (cs : List Str) : (Str.join (one 47) cs).length ≤ (PP cs).length := by unfold PP; rw [Str.length_append]; omega
theorem PP_ne (cs : List Str) : PP cs ≠ Str.empty := fun e => by
  have := PP_pos cs
  rw [e] at this
  exact this rfl
end Mine
namespace Mine
theorem weight_take (i : Nat) (ys : List Str) : weight (ys.take i) ≤ weight ys := by
  have := weight_app (ys.take i) (ys.drop i)
  rw [List.take_append_drop] at this
  omega
theorem take_step {α β : Type} (f : β → α → β) (b : β) {l : List α} {i : Nat} {a : α} (h : l[i]? = some a) : (l.take (i + 1)).foldl f b = f ((l.take i).foldl f b) a := by
  rw [List.take_add_one, h, List.foldl_append]; rfl
end Mine
namespace Mine
theorem weight_get : ∀ {ys : List Str} {i : Nat} {y : Str}, ys[i]? = some y → y.length + 1 ≤ weight ys
  | [], _, _, h => by simp at h
  | x :: r, 0, y, h => by rw [weight_cons]; simp at h; subst h; omega
  | x :: r, i + 1, y, h => by
    rw [weight_cons]
    have := weight_get (ys := r) (i := i) (by simpa using h)
    omega
end Mine
namespace Mine
theorem empty_of {y : Str} (h : (y.length : Int) = 0) : y = Str.empty := by
  apply str_ext
  have := tl_len y
  have h2 : (tl y).length = 0 := by omega
  rw [List.length_eq_zero_iff.mp h2]; rfl
theorem step_nil {acc : List Str} {y : Str} (h : (y.length : Int) = 0) : stepN acc y = acc := by unfold stepN; rw [if_pos (empty_of h)]
theorem step_dot {acc : List Str} {y : Str} (h : (y == Str.ofString ".") = true) : stepN acc y = acc := by
  unfold stepN nstep
  rw [if_pos (show y = Str.ofString "." by simpa using h)]
  split <;> rfl
theorem ne_empty {y : Str} (h : (y.length : Int) ≠ 0) : y ≠ Str.empty := fun e => h (by rw [e]; rfl)
theorem step_add {acc : List Str} {y : Str} (h1 : (y.length : Int) ≠ 0) (h2 : (y == Str.ofString ".") = false) (h3 : (y != Str.ofString "..") = true) : stepN acc y = acc ++ [y] := by
  unfold stepN nstep
  rw [if_neg (ne_empty h1), if_neg (show ¬ y = Str.ofString "." by simpa using h2), if_neg (show ¬ y = Str.ofString ".." by simpa using h3)]
theorem step_up {acc : List Str} {y : Str} (h1 : (y.length : Int) ≠ 0) (h2 : (y == Str.ofString ".") = false) (h3 : (y != Str.ofString "..") = false) : stepN acc y = acc.dropLast := by
  unfold stepN nstep
  rw [if_neg (ne_empty h1), if_neg (show ¬ y = Str.ofString "." by simpa using h2), if_pos (show y = Str.ofString ".." by simpa using h3)]
theorem strs_nil {us : Array Value} {acc : List Str} (h : acc.isEmpty = true) (hi : StrsAre us.toList acc) : StrsAre us.toList acc.dropLast := by
  have : acc = [] := by simpa using h
  subst this; exact hi
theorem last_no {acc : List Str} {d : Str} (hdd : ∀ x ∈ acc, x ≠ d) (hne : acc ≠ []) (h : (acc.getLast hne == d) = true) : False := hdd _ (List.getLast_mem hne) (by simpa using h)
end Mine
end

section
open PySem PySem.W PyProof.Rows
namespace Mine

theorem lit_empty : Str.ofString "" = Str.empty := by decide +kernel
/-- how led reads one part -/
def mp (i : Nat) (p : Str) : Str := if p = Str.empty then (if i = 0 then Str.ofString "." else Str.ofString "..") else p
def mapFrom : Nat → List Str → List Str
  | _, [] => []
  | i, p :: r => mp i p :: mapFrom (i + 1) r
theorem mapFrom_get : ∀ {ps : List Str} {i k : Nat} {p : Str}, ps[k]? = some p → (mapFrom i ps)[k]? = some (mp (i + k) p)
  | [], _, _, _, h => by simp at h
  | q :: r, i, 0, p, h => by simp at h; subst h; simp [mapFrom]
  | q :: r, i, k + 1, p, h => by
    have := mapFrom_get (ps := r) (i := i + 1) (k := k) (by simpa using h)
    simp only [mapFrom, List.getElem?_cons_succ, this]
    congr 2
    omega
theorem mapFrom_len : ∀ (ps : List Str) (i : Nat), (mapFrom i ps).length = ps.length
  | [], _ => rfl
  | p :: r, i => by simp [mapFrom, mapFrom_len r]
theorem mapFrom_weight : ∀ (ps : List Str) (i : Nat), weight (mapFrom i ps) ≤ weight ps + 2 * ps.length
  | [], _ => by simp [mapFrom, weight_nil]
  | p :: r, i => by
    have ih := mapFrom_weight r (i + 1)
    simp only [mapFrom]
    rw [weight_cons, weight_cons, List.length_cons]
    have : (mp i p).length ≤ p.length + 2 := by
      unfold mp
      have h1 : (Str.ofString ".").length = 1 := by decide +kernel
      have h2 : (Str.ofString "..").length = 2 := by decide +kernel
      split
      · split <;> omega
      · omega
    omega
theorem comp_dot : Comp (Str.ofString ".") := by
  rw [lit_dot]; exact ⟨by simp, by simp⟩
theorem lit_dots : Str.ofString ".." = ⟨#[46, 46]⟩ := by decide +kernel
theorem comp_dots : Comp (Str.ofString "..") := by
  rw [lit_dots]; exact ⟨by simp, by simp⟩
/-- a part of a dotted name: empty, or a component -/
def Part (p : Str) : Prop := p = Str.empty ∨ Comp p
theorem mp_comp {i : Nat} {p : Str} (h : Part p) : Comp (mp i p) := by
  unfold mp
  split
  · split
    · exact comp_dot
    · exact comp_dots
  · rename_i hne
    exact h.resolve_left hne
theorem mapFrom_comp : ∀ {ps : List Str} {i : Nat}, (∀ p ∈ ps, Part p) → ∀ c ∈ mapFrom i ps, Comp c
  | [], _, _, _, h => nomatch h
  | p :: r, i, hp, c, h => by
    rcases List.mem_cons.mp h with rfl | h
    · exact mp_comp (hp p (by simp))
    · exact mapFrom_comp (fun q hq => hp q (List.mem_cons_of_mem _ hq)) c h
/-- where led sets out -/
def start (names ps : List Str) : List Str := if ps.headD Str.empty = Str.empty then names else []
def ledTo (names ps : List Str) : List Str := norm (start names ps ++ mapFrom 0 ps)
theorem start_eq {names ps : List Str} (h : (ps.getD (Int.toNat 0) Str.empty == Str.empty) = true) : start names ps = names := by
  have e : ps.getD (Int.toNat 0) Str.empty = ps.headD Str.empty := by cases ps <;> rfl
  unfold start
  rw [if_pos (by rw [← e]; simpa using h)]
theorem start_root {names ps : List Str} (h : (ps.getD (Int.toNat 0) Str.empty == Str.empty) = false) : start names ps = [] := by
  have e : ps.getD (Int.toNat 0) Str.empty = ps.headD Str.empty := by cases ps <;> rfl
  unfold start
  rw [if_neg (by rw [← e]; simpa using h)]
theorem start_comp {names ps : List Str} (h : ∀ c ∈ names, Comp c) : ∀ c ∈ start names ps, Comp c := by
  unfold start; split
  · exact h
  · intro c hc; exact nomatch hc
theorem start_weight (names ps : List Str) : weight (start names ps) ≤ weight names := by
  unfold start; split
  · exact Nat.le_refl _
  · exact Nat.zero_le _
theorem mp_name {i : Nat} {p : Str} (h : (p != Str.empty) = true) : mp i p = p := by
  unfold mp; rw [if_neg (by simpa using h)]
theorem mp_first {i : Nat} {p : Str} (h : (p != Str.empty) = false) (hi : (i : Int) = 0) : mp i p = Str.ofString "." := by
  unfold mp; rw [if_pos (by simpa using h), if_pos (by omega)]
theorem mp_later {i : Nat} {p : Str} (h : (p != Str.empty) = false) (hi : ¬ (i : Int) = 0) : mp i p = Str.ofString ".." := by
  unfold mp; rw [if_pos (by simpa using h), if_neg (by omega)]
theorem part_comp {p : Str} (hp : Part p) (h : (p != Str.empty) = true) : Comp p := hp.resolve_left (by simpa using h)
theorem take_snoc {α : Type} {l : List α} {i : Nat} {a : α} (h : l[i]? = some a) : l.take (i + 1) = l.take i ++ [a] := by
  rw [List.take_add_one, h]; rfl
theorem weight_take_app (a b : List Str) (i : Nat) : weight (a ++ b.take i) ≤ weight a + weight b := by
  rw [weight_app]; have := weight_take i b; omega
end Mine
end

section
open PySem PySem.W PyProof.Rows
namespace Mine

theorem dot_in_join {qs : List Str} (n : Str) (h : qs ≠ []) : 46 ∈ tl (Str.join (one 46) (qs ++ [n])) := by
  rw [join_snoc _ _ h, tl_app, tl_app]; simp
theorem name_is {qs : List Str} {n : Str} (hn : 46 ∉ tl n) (h : (n == Str.join (one 46) (qs ++ [n])) = true) : qs = [] := by
  by_cases hq : qs = []
  · exact hq
  · exfalso
    have e : n = Str.join (one 46) (qs ++ [n]) := by simpa using h
    have := dot_in_join n hq
    rw [← e] at this
    exact hn this
theorem name_not {qs : List Str} {n : Str} (h : (n == Str.join (one 46) (qs ++ [n])) = false) : qs ≠ [] := by
  intro hq
  subst hq
  have : (n == n) = false := h
  simp at this
theorem peel_cut {qs : List Str} {n : Str} (h : qs ≠ []) : Txt.slice (Str.join (one 46) (qs ++ [n])) none (some ((Str.join (one 46) (qs ++ [n])).length - n.length - 1)) = Str.join (one 46) qs := by
  have e := join_snoc (one 46) n h
  have hl : ((Str.join (one 46) (qs ++ [n])).length : Int) - n.length - 1 = (Str.join (one 46) qs).length := by
    rw [e, Str.length_append, Str.length_append]
    have : (one 46).length = 1 := rfl
    omega
  rw [hl, e, Str.append_assoc]
  exact slice_to _ _
theorem join_len_ge (c : Nat) {ps : List Str} (h : ps ≠ []) : ps.length ≤ (Str.join (one c) ps).length + 1 := by
  rw [← weight_join c h]; exact weight_len ps
theorem join_len_le (c : Nat) (ps : List Str) : (Str.join (one c) ps).length ≤ weight ps := by
  by_cases h : ps = []
  · subst h; exact Nat.zero_le _
  · rw [weight_join c h]; omega
section
variable {prog : Program} {w : World} {A : Around} {E : Value → Shared → Prop} {s : Shared} {h₀ : Heap} {L : Addr} {m : Str → Option Value} {news : List (Addr × Obj)}
theorem add_K {l b : Addr} {its its2 : Array Value} {Q : Value → Shared → Prop} (F : Fr h₀ L s.heap m) (N : News h₀ L s.heap news) (hl : s.heap.IsList l its) (hb : s.heap.IsList b its2) (hsz : its.size + its2.size ≤ 100000)
    (h : ∀ D h', Fr h₀ L h' m → News h₀ L h' ((D, listOf (its.toList ++ its2.toList).toArray 0) :: news) → (∀ p ∈ news, p.1 < D) → Q (.ref D) { s with heap := h' }) :
    wpAny (model prog w) A (binaryOp .Add (.ref l) (.ref b)) Q E s :=
  add_arrays (hsz := Nat.le_trans hsz (by decide)) F N hl hb fun h' F' N' => h _ h' F' N' fun p hp => Heap.lt_size (N p hp).1
theorem slice_K {value slice : Expr} {l : Addr} {items : Array Value} {vl vu : Value} {lo hi : Option Int} {Q : Value → Shared → Prop}
    (F : Fr h₀ L s.heap m) (N : News h₀ L s.heap news) (hl : s.heap.IsList l items) (pl : IsPart vl lo) (pu : IsPart vu hi) (hsz : items.size ≤ 100000)
    (h : ∀ D h', Fr h₀ L h' m → News h₀ L h' ((D, listOf (slicePick items lo hi none) 0) :: news) → (∀ p ∈ news, p.1 < D) → Q (.ref D) { s with heap := h' })
    (hs : subscripted slice false (.ref l) (.ref s.heap.objs.size) = operate [.ref s.heap.objs.size, .ref l] (getItem (.ref l) (.ref s.heap.objs.size)))
    (ht : ∀ r, letTemporaryGo value (.ref l) r = pure ()) :
    wpAny (model prog w) A (subscriptTail value slice (.ref l) (.ref s.heap.objs.size)) Q E { s with heap := s.heap.push { cls := .type "slice", data := .fields #[vl, vu, .none] } } :=
  slice_list (hsz := Nat.le_trans hsz (by decide)) F N hl pl pu (fun h' F' N' => h _ h' F' N' fun p hp => Nat.lt_succ_of_lt (Heap.lt_size (N p hp).1)) hs ht
end
/-- walked's step -/
def wstep (i : Nat) (way : List Str) (p : Str) : List Str := if p = Str.empty then (if i = 0 then way else way.dropLast) else way ++ [p]
def walkTo (names ps : List Str) : Nat → List Str
  | 0 => start names ps
  | k + 1 => match ps[k]? with
    | some p => wstep k (walkTo names ps k) p
    | none => walkTo names ps k
theorem walk_step {names ps : List Str} {k : Nat} {p : Str} (h : ps[k]? = some p) : walkTo names ps (k + 1) = wstep k (walkTo names ps k) p := by
  rw [walkTo, h]
theorem wstep_weight (i : Nat) (way : List Str) (p : Str) : weight (wstep i way p) ≤ weight way + weight [p] := by
  unfold wstep
  have := weight_dropLast way
  (repeat' split) <;> (try rw [weight_app]) <;> omega
theorem walk_weight (names ps : List Str) : ∀ k, weight (walkTo names ps k) ≤ weight names + weight (ps.take k)
  | 0 => by rw [walkTo]; have := start_weight names ps; omega
  | k + 1 => by
    have ih := walk_weight names ps k
    cases h : ps[k]? with
    | none =>
      rw [walkTo, h]
      have : ps.take (k + 1) = ps.take k := by rw [List.take_add_one, h]; simp
      rw [this]; exact ih
    | some p =>
      rw [walk_step h, take_snoc h, weight_app]
      have := wstep_weight k (walkTo names ps k) p
      omega
theorem strs_butLast {us : Array Value} {ys : List Str} (h : StrsAre us.toList ys) : StrsAre (slicePick us none (some (-1)) none).toList ys.dropLast := by
  have e := slicePick_butLast us 1 (Nat.le_refl _)
  have e2 : slicePick us none (some (-1)) none = (us.toList.take (us.size - 1)).toArray := e
  rw [e2, List.toList_toArray, List.dropLast_eq_take, ← size_strs h]
  exact StrsAre.take' h _
/-- a plain name -/
def Plain (c : Str) : Prop := Comp c ∧ c ≠ Str.ofString "." ∧ c ≠ Str.ofString ".."
def PlainPart (p : Str) : Prop := p = Str.empty ∨ Plain p
theorem PlainPart.part {p : Str} (h : PlainPart p) : Part p := h.imp id (·.1)
theorem nstep_plain {acc : List Str} {c : Str} (h : Plain c) : nstep acc c = acc ++ [c] := by
  unfold nstep; rw [if_neg h.2.1, if_neg h.2.2]
theorem norm_plain : ∀ (cs acc : List Str), (∀ c ∈ cs, Plain c) → cs.foldl nstep acc = acc ++ cs
  | [], acc, _ => by simp
  | c :: r, acc, h => by
    rw [List.foldl_cons, nstep_plain (h c (by simp)), norm_plain r _ fun x hx => h x (List.mem_cons_of_mem _ hx)]
    simp
theorem dot_ne : Str.ofString ".." ≠ Str.ofString "." := by decide +kernel
theorem nstep_mp {acc : List Str} {i : Nat} {p : Str} (h : PlainPart p) : nstep acc (mp i p) = wstep i acc p := by
  unfold mp wstep
  split
  · rename_i he
    split
    · unfold nstep; rw [if_pos rfl]
    · unfold nstep; rw [if_neg dot_ne, if_pos rfl]
  · rename_i he
    exact nstep_plain (h.resolve_left he)
theorem led_walk {names ps : List Str} (hn : ∀ c ∈ names, Plain c) (hp : ∀ p ∈ ps, PlainPart p) : ∀ k, norm (start names ps ++ (mapFrom 0 ps).take k) = walkTo names ps k
  | 0 => by
    unfold norm
    rw [List.take_zero, List.append_nil, norm_plain _ _ (by
      unfold start; split
      · exact hn
      · intro c hc; exact nomatch hc)]
    rfl
  | k + 1 => by
    have ih := led_walk hn hp k
    cases h : ps[k]? with
    | none =>
      rw [walkTo, h]
      have hl : (mapFrom 0 ps)[k]? = none := by
        rw [List.getElem?_eq_none_iff] at h ⊢
        rw [mapFrom_len]; exact h
      have : (mapFrom 0 ps).take (k + 1) = (mapFrom 0 ps).take k := by rw [List.take_add_one, hl]; simp
      rw [this]; exact ih
    | some p =>
      have hm := mapFrom_get (i := 0) h
      rw [walk_step h, take_snoc hm, ← List.append_assoc]
      unfold norm at ih ⊢
      rw [List.foldl_append, ih, Nat.zero_add]
      exact nstep_mp (hp p (List.mem_of_getElem? h))
theorem ledTo_walk {names ps : List Str} (hn : ∀ c ∈ names, Plain c) (hp : ∀ p ∈ ps, PlainPart p) : ledTo names ps = walkTo names ps ps.length := by
  have := led_walk hn hp ps.length
  rw [List.take_of_length_le (by rw [mapFrom_len]; omega)] at this
  exact this
end Mine
namespace Mine
theorem wstep_name {i : Nat} {way : List Str} {p : Str} (h : (p != Str.empty) = true) : wstep i way p = way ++ [p] := by
  unfold wstep; rw [if_neg (by simpa using h)]
theorem wstep_up {i : Nat} {way : List Str} {p : Str} (h : (p != Str.empty) = false) (hi : 0 < (i : Int)) : wstep i way p = way.dropLast := by
  unfold wstep; rw [if_pos (by simpa using h), if_neg (by omega)]
theorem wstep_first {i : Nat} {way : List Str} {p : Str} (h : (p != Str.empty) = false) (hi : ¬ 0 < (i : Int)) : wstep i way p = way := by
  unfold wstep; rw [if_pos (by simpa using h), if_pos (by omega)]
theorem is_empty {p : Str} (h : (p != Str.empty) = false) : p = Str.empty := by simpa using h
theorem strs_snoc {us : List Value} {ys : List Str} {p : Str} {t : Tok} (h : StrsAre us ys) : StrsAre (us ++ #[Value.str p t].toList).toArray.toList (ys ++ [p]) := by
  rw [List.toList_toArray]; exact StrsAre.append' h (.cons _ _ .nil)
end Mine
end

section
open PySem PySem.W PyProof.Rows
namespace Mine

/-- the longest common beginning -/
def lcp : List Str → List Str → List Str
  | a :: x, b :: y => if a = b then a :: lcp x y else []
  | _, _ => []
theorem lcp_take : ∀ {k : Nat} {xs ys : List Str}, k ≤ xs.length → k ≤ ys.length → xs.take k = ys.take k → (k = xs.length ∨ k = ys.length ∨ xs[k]? ≠ ys[k]?) → lcp xs ys = xs.take k
  | 0, [], _, _, _, _, _ => by simp [lcp]
  | 0, _ :: _, [], _, _, _, _ => by simp [lcp]
  | 0, a :: x, b :: y, _, _, _, h => by
    have hab : a ≠ b := by
      rcases h with h | h | h
      · simp at h
      · simp at h
      · simpa using h
    simp [lcp, hab]
  | k + 1, [], _, h, _, _, _ => by simp at h
  | k + 1, _ :: _, [], _, h, _, _ => by simp at h
  | k + 1, a :: x, b :: y, h1, h2, h3, h4 => by
    simp only [List.take_succ_cons, List.cons.injEq] at h3
    have ih := lcp_take (k := k) (xs := x) (ys := y) (by simpa using h1) (by simpa using h2) h3.2 (by
      rcases h4 with h | h | h
      · exact .inl (by simpa using h)
      · exact .inr (.inl (by simpa using h))
      · exact .inr (.inr (by simpa using h)))
    simp [lcp, h3.1, ih]
theorem lcp_le : ∀ (xs ys : List Str), (lcp xs ys).length ≤ xs.length ∧ (lcp xs ys).length ≤ ys.length
  | [], _ => by simp [lcp]
  | _ :: _, [] => by simp [lcp]
  | a :: x, b :: y => by
    simp only [lcp]
    have := lcp_le x y
    split
    · simp only [List.length_cons]; omega
    · simp
theorem lcp_left : ∀ (xs ys : List Str), xs.take (lcp xs ys).length = lcp xs ys
  | [], _ => by simp [lcp]
  | _ :: _, [] => by simp [lcp]
  | a :: x, b :: y => by
    simp only [lcp]
    split
    · simp [lcp_left x y]
    · simp
theorem lcp_right : ∀ (xs ys : List Str), ys.take (lcp xs ys).length = lcp xs ys
  | [], _ => by simp [lcp]
  | _ :: _, [] => by simp [lcp]
  | a :: x, b :: y => by
    simp only [lcp]
    split
    · rename_i h; simp [lcp_right x y, h]
    · simp
theorem strs_from {us : Array Value} {ys : List Str} {a : Nat} (h : StrsAre us.toList ys) : StrsAre (slicePick us (some (a : Int)) none none).toList (ys.drop a) := by
  rw [slicePick_from', List.toList_toArray]; exact StrsAre.drop' h a
theorem strs_upto {us : Array Value} {ys : List Str} {a : Nat} (h : StrsAre us.toList ys) : StrsAre (slicePick us none (some (a : Int)) none).toList (ys.take a) := by
  rw [slicePick_upto', List.toList_toArray]; exact StrsAre.take' h a
theorem weight_drop (i : Nat) (ys : List Str) : weight (ys.drop i) ≤ weight ys := by
  have := weight_app (ys.take i) (ys.drop i)
  rw [List.take_append_drop] at this
  omega

/-- how far the two ways go together -/
def alikeN (names there : List Str) : Nat := (lcp names there.dropLast).length
def toldT (names there : List Str) : Str := Txt.mul (one 46) ((names.length : Int) - (alikeN names there : Int) + 1) ++ Str.join (one 46) (there.drop (alikeN names there))
theorem alike_end {names there : List Str} {a : Nat} (h1 : a ≤ names.length) (h2 : (a : Int) ≤ there.length - 1) (h3 : names.take a = there.take a) (hne : 0 < there.length)
    (h4 : (a : Int) = names.length ∨ (a : Int) = there.length - 1 ∨ names[a]? ≠ there[a]?) : alikeN names there = a := by
  have hdl : there.dropLast.length = there.length - 1 := List.length_dropLast
  have ht : there.dropLast.take a = there.take a := by
    rw [List.dropLast_eq_take, List.take_take, Nat.min_eq_left (by omega)]
  have := lcp_take (xs := names) (ys := there.dropLast) h1 (by omega) (by rw [ht]; exact h3) (by
    by_cases ha : a < there.length - 1
    · rcases h4 with h | h | h
      · exact .inl (by omega)
      · exact .inr (.inl (by omega))
      · refine .inr (.inr ?_)
        rw [List.dropLast_eq_take, List.getElem?_take_of_lt ha]
        exact h
    · exact .inr (.inl (by omega)))
  unfold alikeN
  rw [this, List.length_take]
  omega
theorem getD_ne {xs ys : List Str} {a : Nat} (h1 : a < xs.length) (h2 : a < ys.length) (h : (xs.getD (a : Int).toNat Str.empty == ys.getD (a : Int).toNat Str.empty) = false) : xs[a]? ≠ ys[a]? := by
  have e : (a : Int).toNat = a := by omega
  rw [e, List.getD_eq_getElem?_getD, List.getD_eq_getElem?_getD, List.getElem?_eq_getElem h1, List.getElem?_eq_getElem h2] at h
  rw [List.getElem?_eq_getElem h1, List.getElem?_eq_getElem h2]
  simpa using h
theorem take_more {xs ys : List Str} {a : Nat} (h0 : xs.take a = ys.take a) (h1 : a < xs.length) (h2 : a < ys.length) (h : (xs.getD (a : Int).toNat Str.empty == ys.getD (a : Int).toNat Str.empty) = true) : xs.take (a + 1) = ys.take (a + 1) := by
  have e : (a : Int).toNat = a := by omega
  rw [e, List.getD_eq_getElem?_getD, List.getD_eq_getElem?_getD, List.getElem?_eq_getElem h1, List.getElem?_eq_getElem h2] at h
  rw [List.take_add_one, List.take_add_one, h0, List.getElem?_eq_getElem h1, List.getElem?_eq_getElem h2]
  have h3 : xs[a] = ys[a] := by simpa using h
  rw [h3]
end Mine
namespace Mine
theorem told_at {names there : List Str} {a : Nat} (h : alikeN names there = a) : Txt.mul (one 46) ((names.length : Int) - (a : Int) + 1) ++ Str.join (one 46) (there.drop a) = toldT names there := by
  unfold toldT; rw [h]
end Mine
namespace Mine
theorem PP_inj {xs ys : List Str} (hx : ∀ c ∈ xs, Comp c) (hy : ∀ c ∈ ys, Comp c) (h : PP xs = PP ys) : xs = ys := by
  have e : Str.join (one 47) xs = Str.join (one 47) ys := by
    have := congrArg tl h
    unfold PP at this
    rw [tl_app, tl_app] at this
    exact str_ext (List.append_cancel_left this)
  by_cases h1 : xs = []
  · by_cases h2 : ys = []
    · rw [h1, h2]
    · exfalso
      obtain ⟨c, r, hr, _⟩ := join_first h2 hy
      rw [← e, h1] at hr
      have : ([] : List Nat) = c :: r := hr
      cases this
  · by_cases h2 : ys = []
    · exfalso
      obtain ⟨c, r, hr, _⟩ := join_first h1 hx
      rw [e, h2] at hr
      have : ([] : List Nat) = c :: r := hr
      cases this
    · exact join_inj 47 xs ys h1 h2 (fun p hp => (hx p hp).2) (fun p hp => (hy p hp).2) e
theorem take_pred {names : List Str} {j : Nat} (h1 : 0 < j) (h2 : j ≤ names.length) : ∃ n, names.take j = names.take (j - 1) ++ [n] ∧ names[j - 1]? = some n := by
  have h3 : j - 1 < names.length := by omega
  refine ⟨names[j - 1], ?_, List.getElem?_eq_getElem h3⟩
  have := take_snoc (l := names) (i := j - 1) (List.getElem?_eq_getElem h3)
  rw [Nat.sub_add_cancel h1] at this
  exact this
theorem drop_pred {names : List Str} {j : Nat} {n : Str} (h1 : 0 < j) (h : names[j - 1]? = some n) : names.drop (j - 1) = n :: names.drop j := by
  have h3 : j - 1 < names.length := (List.getElem?_eq_some_iff.mp h).1
  rw [List.drop_eq_getElem_cons h3, (List.getElem?_eq_some_iff.mp h).2, Nat.sub_add_cancel h1]
theorem dots_eq {d : Str} {k : Nat} {n : Int} (h : tl d = List.replicate k 46) (hn : n = k) : d = Txt.mul (one 46) n := by
  apply str_ext
  have : tl (Txt.mul (one 46) n) = List.replicate n.toNat 46 := mul_one_list 46 n
  rw [h, this, hn]
  congr 1
theorem dots_more {d : Str} {k : Nat} (h : tl d = List.replicate k 46) : tl (d ++ one 46) = List.replicate (k + 1) 46 := by
  rw [tl_app, h, tl_one, List.replicate_succ']
end Mine
end

section
open PySem PySem.W PyProof.Rows
namespace Mine
theorem comp_no47 {c : Str} (h : Comp c) : 47 ∉ tl c := h.2
theorem split_PP {cs : List Str} (hc : ∀ c ∈ cs, Comp c) : Txt.split (PP cs) (one 47) = Str.empty :: parts cs := by
  have hne : parts cs ≠ [] := by unfold parts; split <;> simp_all
  have e : PP cs = Str.join (one 47) (Str.empty :: parts cs) := by
    rw [join_cons _ _ hne]
    unfold PP parts
    apply str_ext
    by_cases h : cs = []
    · subst h; rfl
    · rw [if_neg h, tl_app, tl_app, tl_app]; rfl
  rw [e]
  refine split_join 47 (by simp) ?_
  intro p hp
  rcases List.mem_cons.mp hp with rfl | hp
  · intro h; cases h
  · unfold parts at hp
    split at hp
    · rw [List.mem_singleton.mp hp]; intro h; cases h
    · exact (hc p hp).2
def keepC (c : Str) : Bool := !(c.length == 0) && c != one 46
theorem keep_parts {cs : List Str} (hc : ∀ c ∈ cs, Plain c) : (Str.empty :: parts cs).filter keepC = cs := by
  have h0 : keepC Str.empty = false := rfl
  rw [List.filter_cons_of_neg (by rw [h0]; simp)]
  unfold parts
  by_cases h : cs = []
  · subst h; rfl
  · rw [if_neg h]
    apply List.filter_eq_self.mpr
    intro c hm
    obtain ⟨⟨h1, _⟩, h2, _⟩ := hc c hm
    have h3 : c ≠ one 46 := by rw [← lit_dot]; exact h2
    have h4 : c.length ≠ 0 := by
      intro e
      have : c = Str.empty := empty_of (by omega)
      exact h1 (by rw [this]; rfl)
    simp [keepC, h4, h3]
theorem parts_len (cs : List Str) : (Str.empty :: parts cs).length ≤ weight cs + 2 := by
  have := weight_len cs
  unfold parts; split <;> simp_all <;> omega
end Mine
namespace Mine
open PySem.Builtin PySem.Builtin.Str PySem.StrLaws
theorem starts_PP (cs : List Str) : Txt.startswith (PP cs) (one 47) = true := by
  unfold Txt.startswith
  simp only [Bool.and_eq_true, decide_eq_true_eq]
  exact (subAt_one (PP cs) 47 0).mpr (by show (tl (PP cs))[0]? = some 47; unfold PP; rw [tl_app]; rfl)
end Mine
end

section
open PySem PySem.W PyProof.Rows
namespace Mine
set_option maxRecDepth 100000
set_option maxHeartbeats 8000000


local macro_rules | `(tactic| walk_at "call builtin:issubclass") => `(tactic| ((with_reducible show wpAny _ _ (call (Value.builtin "issubclass") [Value.type "str", Value.ref _]) _ _ _); refine Stop.here ?_))
theorem spec_fspath (w : World) (x : Str) (t : Tok) :
    Spec w 101 [.str x t] 1 8 (fun _ => True) (RetVal (.str x t)) := by
  w_top off
  ((have fk := kfill); revert fk; k_fill; intro fk; clear fk)
  refine' enter [("path", .str x t)] ?ho ?hcd ?hbind ?hloc ?_ ?h1 ?h2 ?h3 ?h4 ?h5
  ((case ho => k_is); (case hcd => k_is); (case hbind => intro s; exact BindsTo.of_eq (by with_unfolding_all rfl)); (case hloc => exact locs (by with_unfolding_all rfl)); (case h1 => decide); (case h2 => rfl); (case h3 => rfl); (case h4 => rfl); (case h5 => decide))
  intro dp outer gd un base h₀ s L mean mg mb B X T hdp hun _ F N
  k_fold
  k_steps
  repeat (any_goals ((with_reducible refine Stop.on ?_); (first | ((with_reducible show wpAny _ _ (call (Value.builtin "issubclass") [Value.type "str", Value.ref _]) _ _ _); refine' call_issub (by exact News.get (by assumption) (by k_mem)) ?_)); k_steps))
  all_goals (refine Back.ret (by assumption) ?_)
  all_goals exact rfl
theorem spec_getsep (w : World) (x : Str) (t : Tok) :
    Spec w 115 [.str x t] 1 8 (fun _ => True) (RetStr (one 47)) := by
  w_top off
  ((have fk := kfill); revert fk; k_fill; intro fk; clear fk)
  refine' enter [("path", .str x t)] ?ho ?hcd ?hbind ?hloc ?_ ?h1 ?h2 ?h3 ?h4 ?h5
  ((case ho => k_is); (case hcd => k_is); (case hbind => intro s; exact BindsTo.of_eq (by with_unfolding_all rfl)); (case hloc => exact locs (by with_unfolding_all rfl)); (case h1 => decide); (case h2 => rfl); (case h3 => rfl); (case h4 => rfl); (case h5 => decide))
  intro dp outer gd un base h₀ s L mean mg mb B X T hdp hun _ F N
  simp only [lit_slash]
  k_fold
  k_steps
  repeat (any_goals ((with_reducible refine Stop.on ?_); (first | ((with_reducible show wpAny _ _ (call (Value.builtin "issubclass") [Value.type "str", Value.ref _]) _ _ _); refine' call_issub (by exact News.get (by assumption) (by k_mem)) ?_)); k_steps))
  all_goals (refine Back.ret (by assumption) ?_)
  all_goals exact ⟨_, rfl⟩
end Mine
end

section
open PySem PySem.W PyProof.Rows
open AutoSeq1 (wpAny_loadPart')
set_option maxRecDepth 100000
namespace Mine
theorem owner_map : Manifest.owners.lookup (String.ofList ['p', 'a', 'm'].reverse) = some Manifest.sig_map := by kernel_rfl
theorem slot_map_init : Slot "map" "__init__" "object.__init__" :=
  .of (owner := "object") (n := "__init__") (by rw [typeLookup_type, builtinLookup_eq_fast]; kernel_rfl) (by decide +kernel) (by decide +kernel) (by decide +kernel)
    (by first | exact .inl (by decide +kernel) | exact .inr (by decide +kernel)) (by rw [isSubtype_type]; kernel_rfl)
theorem slot_map_iter : Slot "map" "__iter__" "map.__iter__" :=
  .of (owner := "map") (n := "__iter__") (by rw [typeLookup_type, builtinLookup_eq_fast]; kernel_rfl) (by decide +kernel) (by decide +kernel) (by decide +kernel)
    (by first | exact .inl (by decide +kernel) | exact .inr (by decide +kernel)) (by rw [isSubtype_type]; kernel_rfl)
theorem slot_map_next : Slot "map" "__next__" "map.__next__" :=
  .of (owner := "map") (n := "__next__") (by rw [typeLookup_type, builtinLookup_eq_fast]; kernel_rfl) (by decide +kernel) (by decide +kernel) (by decide +kernel)
    (by first | exact .inl (by decide +kernel) | exact .inr (by decide +kernel)) (by rw [isSubtype_type]; kernel_rfl)
theorem entry_map_next : entryFor table "map.__next__" = some Builtin.«map.__next__» := entryFor_of_tree (by kernel_rfl)
theorem args_map_next (a : Value) : argsOk "map.__next__" ⟨[a], []⟩ := by
  unfold argsOk; rw [signature?_of (id := "map.__next__") (n := ['_', '_', 't', 'x', 'e', 'n', '_', '_']) (o := ['p', 'a', 'm']) (by kernel_rfl) owner_map]; kernel_rfl
theorem args_map_iter (a : Value) : argsOk "map.__iter__" ⟨[a], []⟩ := by
  unfold argsOk; rw [signature?_of (id := "map.__iter__") (n := ['_', '_', 'r', 'e', 't', 'i', '_', '_']) (o := ['p', 'a', 'm']) (by kernel_rfl) owner_map]; kernel_rfl
theorem entry_map_iter : entryFor table "map.__iter__" = some Builtin.«dict_keyiterator.__iter__» :=
  entryFor_alias (id' := "dict_keyiterator.__iter__") (by kernel_rfl) (by first | rfl | decide +kernel | (unfold String.splitOn; simp +decide [String.splitOnAux])) (by decide +kernel) (by kernel_rfl)
theorem mro_map : mroOf (.type "map") = pure [.type "map", .type "object"] := by rw [mroOf_type]; kernel_rfl
theorem lookup_map_new : typeLookup (.type "map") "__new__" = pure (some (.builtin "map.__new__")) := by rw [typeLookup_type, builtinLookup_eq_fast]; kernel_rfl
theorem called_map : TypeCalled "map" "map.__new__" "object.__init__" :=
  ⟨by decide +kernel, by decide +kernel, ⟨_, _, mro_map⟩, madeBy_type mro_map lookup_map_new (by decide +kernel), by decide +kernel, by rw [isSubtype_type]; kernel_rfl, slot_map_init⟩
theorem typeCall_map_2 (a b : Value) : checkTypeCall "map" ⟨[a, b], []⟩ = pure () := by kernel_rfl
theorem newCall_map_2 (a b : Value) : checkBuiltinCall "map.__new__" ⟨[.type "map", a, b], []⟩ = pure () := by kernel_rfl
theorem entry_map_new : entryFor table "map.__new__" = some Builtin.«map.__new__» := entryFor_of_tree (by kernel_rfl)
theorem sub_map : isSubtype (.type "map") (.type "map") = pure true := by rw [isSubtype_type]; kernel_rfl
theorem map_no_len : typeLookup (.type "map") "__len__" = pure none := by rw [typeLookup_type, builtinLookup_eq_fast]; kernel_rfl
theorem map_no_hint : typeLookup (.type "map") "__length_hint__" = pure none := by rw [typeLookup_type, builtinLookup_eq_fast]; kernel_rfl
end Mine
end

section
open PySem PySem.W PyProof.Rows
open AutoSeq1 (wpAny_loadPart')
set_option maxRecDepth 100000
namespace Mine
abbrev itObj (l : Addr) (i : Nat) : Obj := { cls := .type "list_iterator", data := .fields #[.ref l, .int i 0] }
abbrev tpObj (it : Addr) : Obj := { cls := .type "tuple", data := .seq #[.ref it] }
abbrev mapObj (tp : Addr) (f : Value) : Obj := { cls := .type "map", data := .fields #[.ref tp, f] }
theorem meets_map_new (f : Value) (l : Addr) (items : Array Value) (n : Nat) :
    Meets (Builtin.«map.__new__» ⟨[.type "map", f, .ref l], []⟩) (fun _ R s => s.heap.get? l = some { cls := .type "list", dict := none, data := .seq items n, slots := #[] } ∧
      R (.ok (.ret (.ref ((s.heap.push (itObj l 0)).push (tpObj s.heap.objs.size)).objs.size)))
        { s with heap := ((s.heap.push (itObj l 0)).push (tpObj s.heap.objs.size)).push (mapObj (s.heap.push (itObj l 0)).objs.size f) }) :=
  .of_wp fun prog w A R s h => by
    obtain ⟨hp, g, d, tk, os⟩ := s; obtain ⟨hl, h⟩ := h
    have hsub := sub_map
    have hL : Heap.IsList (Shared.heap ⟨hp, g, d, tk, os⟩) l items := ⟨_, hl, rfl, n, rfl⟩
    wp_walk using wpAny_loadPart' hl, wpAny_pyIter_list hL
    exact ⟨_, rfl, h⟩
section
variable {prog : Program} {w : World} {A : Around} {E : Value → Shared → Prop} {s : Shared} {h₀ : Heap} {L : Addr} {m : Str → Option Value} {news : List (Addr × Obj)}
theorem call_map {f : Value} {l : Addr} {items : Array Value} {n : Nat} {Q : Value → Shared → Prop} (F : Fr h₀ L s.heap m) (N : News h₀ L s.heap news) (hl : s.heap.get? l = some (listOf items n))
    (h : ∀ M tp it h', Fr h₀ L h' m → News h₀ L h' ((M, mapObj tp f) :: (tp, tpObj it) :: (it, itObj l 0) :: news) → (∀ p ∈ news, p.1 < it) → it < tp → tp < M → Q (.ref M) { s with heap := h' }) :
    wpAny (model prog w) A (call (.type "map") [f, .ref l]) Q E s := by
  refine callType_new called_map (by decide) (typeCall_map_2 _ _) (newCall_map_2 _ _) (fun obj => PySem.F.args_object_init_3 obj _ _) entry_map_new (meets_map_new f l items n) ⟨hl, ?_⟩
  have N1 := News.push F N (itObj l 0)
  have F1 := F.push (itObj l 0)
  have N2 := News.push F1 N1 (tpObj s.heap.objs.size)
  have F2 := F1.push (tpObj s.heap.objs.size)
  have N3 := News.push F2 N2 (mapObj (s.heap.push (itObj l 0)).objs.size f)
  have F3 := F2.push (mapObj (s.heap.push (itObj l 0)).objs.size f)
  refine ⟨⟨_, Heap.get?_push_size _ rfl, rfl⟩, h _ _ _ _ F3 N3 (fun p hp => Heap.lt_size (N p hp).1) ?_ ?_⟩
  · rw [Heap.size_push]; exact Nat.lt_succ_self _
  · rw [Heap.size_push _ (tpObj s.heap.objs.size)]; exact Nat.lt_succ_self _
end
end Mine
end

section
open PySem PySem.W PyProof.Rows
open AutoSeq1 (wpAny_loadPart')
set_option maxRecDepth 100000
namespace Mine
section
variable {prog : Program} {w : World} {A : Around} {E : Value → Shared → Prop} {s : Shared}
theorem map_next_item {M tp it l fn : Addr} {i : Nat} {items : Array Value} {x : Value} {Q : Value → Shared → Prop}
    (hM : s.heap.get? M = some (mapObj tp (.ref fn))) (htp : s.heap.get? tp = some (tpObj it)) (hit : s.heap.IsListIter it l i) (hl : s.heap.IsList l items) (hx : items[i]? = some x) (hne : M ≠ it)
    (hcall : ∀ h', h'.IsListIter it l (i + 1) → Heap.SameBut it s.heap h' → wpAny (model prog w) A (call (.ref fn) [x]) (fun v s' => Q v s') E { s with heap := h' }) :
    wpAny (model prog w) A (Builtin.«map.__next__» ⟨[.ref M], []⟩) (fun fin s' => ∃ v, fin = .done (.ret v) ∧ Q v s') E s := by
  obtain ⟨hp, g, d, tk, os⟩ := s
  show wpAny _ _ (field (.ref M) 0 >>= _) _ _ _
  refine wpAny_bind (wpAny_field hM rfl (x := .ref tp) rfl ?_)
  refine wpAny_bind (wpAny_seqItems htp rfl ?_)
  show wpAny _ _ (forIn #[Value.ref it] (#[] : Array Value) _ >>= _) _ _ _
  refine wpAny_bind ?_
  rw [← Array.forIn_toList]
  show wpAny _ _ (forIn [Value.ref it] (#[] : Array Value) _) _ _ _
  rw [List.forIn_cons]
  refine wpAny_bind (wpAny_bind (wpAny_holding (wpAny_nextOf_list_item hit hl hx fun h₁ hit₁ hs₁ => wpAny_pure (wpAny_pure ?_))))
  have hM₁ : h₁.get? M = some (mapObj tp (.ref fn)) := (hs₁.2 M hne).trans hM
  refine wpAny_bind (wpAny_field hM₁ rfl (x := .ref fn) rfl ?_)
  refine wpAny_bind (wpAny_holding ?_)
  refine wpAny_mono (hcall h₁ hit₁ hs₁) (fun v s' hv => ?_) fun _ _ e => e
  exact wpAny_bind (wpAny_letGo (wpAny_pure ⟨v, rfl, hv⟩))
theorem map_next_end {M tp it l fn : Addr} {i : Nat} {items : Array Value} {Q : Value → Shared → Prop} (hh : A.handled = none)
    (hM : s.heap.get? M = some (mapObj tp (.ref fn))) (htp : s.heap.get? tp = some (tpObj it)) (hit : s.heap.IsListIter it l i) (hl : s.heap.IsList l items) (hx : items[i]? = none)
    (hE : ∀ h' e, Heap.ExtBut it s.heap h' → (∃ o, h'.get? e = some o ∧ o.cls = .type "StopIteration") → E (.ref e) { s with heap := h' }) :
    wpAny (model prog w) A (Builtin.«map.__next__» ⟨[.ref M], []⟩) (fun fin s' => ∃ v, fin = .done (.ret v) ∧ Q v s') E s := by
  obtain ⟨hp, g, d, tk, os⟩ := s
  show wpAny _ _ (field (.ref M) 0 >>= _) _ _ _
  refine wpAny_bind (wpAny_field hM rfl (x := .ref tp) rfl ?_)
  refine wpAny_bind (wpAny_seqItems htp rfl ?_)
  show wpAny _ _ (forIn #[Value.ref it] (#[] : Array Value) _ >>= _) _ _ _
  refine wpAny_bind ?_
  rw [← Array.forIn_toList]
  show wpAny _ _ (forIn [Value.ref it] (#[] : Array Value) _) _ _ _
  rw [List.forIn_cons]
  exact wpAny_bind (wpAny_bind (wpAny_holding (wpAny_nextOf_list_end hh hit hl hx hE)))
theorem pyNext_map_item {M tp it l fn : Addr} {i : Nat} {items : Array Value} {x : Value} {Q : Option Value → Shared → Prop}
    (hM : s.heap.get? M = some (mapObj tp (.ref fn))) (htp : s.heap.get? tp = some (tpObj it)) (hit : s.heap.IsListIter it l i) (hl : s.heap.IsList l items) (hx : items[i]? = some x) (hne : M ≠ it)
    (hcall : ∀ E' h', h'.IsListIter it l (i + 1) → Heap.SameBut it s.heap h' → wpAny (model prog w) A.in1 (call (.ref fn) [x]) (fun v s' => Q (some v) s') E' { s with heap := h' }) :
    wpAny (model prog w) A (pyNext (.ref M)) Q E s := by
  have hT : s.TypeIs (.ref M) "map" := ⟨_, hM, rfl⟩
  unfold pyNext
  exact wpAny_bind (wpAny_attempt (wpAny_callSpecial?_slot (name := Str.ofString "__next__") hT slot_map_next
    (wpAny_call_entry slot_map_next hT entry_map_next (map_next_item hM htp hit hl hx hne fun h' a b => wpAny_mono (hcall _ h' a b) (fun _ _ q => wpAny_pure q) fun _ _ e => e) (args_map_next _))))
theorem pyNext_map_end {M tp it l fn : Addr} {i : Nat} {items : Array Value} {Q : Option Value → Shared → Prop} (hh : A.handled = none)
    (hM : s.heap.get? M = some (mapObj tp (.ref fn))) (htp : s.heap.get? tp = some (tpObj it)) (hit : s.heap.IsListIter it l i) (hl : s.heap.IsList l items) (hx : items[i]? = none)
    (hQ : ∀ h', Heap.ExtBut it s.heap h' → Q none { s with heap := h' }) : wpAny (model prog w) A (pyNext (.ref M)) Q E s := by
  have hT : s.TypeIs (.ref M) "map" := ⟨_, hM, rfl⟩
  unfold pyNext
  refine wpAny_bind (wpAny_attempt (wpAny_callSpecial?_slot (name := Str.ofString "__next__") hT slot_map_next
    (wpAny_call_entry slot_map_next hT entry_map_next (map_next_end hh hM htp hit hl hx fun h' x he' hx' => ?_) (args_map_next _))))
  obtain ⟨o, ho, hc⟩ := hx'
  refine wpAny_bind (wpAny_isInstance (T := "StopIteration") (b := true) ⟨o, ho, hc⟩ isSubtype_stop ?_)
  exact wpAny_pure (hQ _ he')
theorem pyIter_map {M tp : Addr} {f : Value} {Q : Value → Shared → Prop} (hM : s.heap.get? M = some (mapObj tp f)) (h : Q (.ref M) s) : wpAny (model prog w) A (pyIter (.ref M)) Q E s := by
  have hT : s.TypeIs (.ref M) "map" := ⟨_, hM, rfl⟩
  refine wpAny_pyIter_slot hT slot_map_iter (wpAny_call_entry slot_map_iter hT entry_map_iter ?_ (args_map_iter _))
  show wpAny _ _ (ret (.ref M)) _ _ s
  exact wpAny_pure ⟨_, rfl, "map", _, hT, slot_map_next.lookup, h⟩
end
end Mine
end

section
open PySem PySem.W PyProof.Rows
open AutoSeq1 (wpAny_loadPart')
set_option maxRecDepth 100000
namespace Mine
abbrev upA (A : Around) (k : Nat) : Around := { A with units := A.units + k }
/-- all of h is kept, but it -/
def KeepBut (it : Addr) (h h' : Heap) : Prop := ∀ b o, b ≠ it → h.get? b = some o → h'.get? b = some o
section
variable {prog : Program} {w : World} {A : Around} {E : Value → Shared → Prop} {s : Shared}
theorem ext_map {R : Result → Shared → Prop} {M tp it l fn S : Addr} {items : Array Value} {res : Value} (hh : A.handled = none) (hn : items.size ≤ 100000)
    (hM : s.heap.get? M = some (mapObj tp (.ref fn))) (htp : s.heap.get? tp = some (tpObj it)) (hl : s.heap.IsList l items) (hMi : M ≠ it) (hti : tp ≠ it) (hli : l ≠ it) (hSi : S ≠ it) (hS0 : s.heap.get? S = none)
    (hcall : ∀ (E' : Value → Shared → Prop) (Q' : Value → Shared → Prop) (x : Value) h' tk', x ∈ items.toList → KeepBut it s.heap h' → (∀ h'' tk'', h'.StaysIn h'' → Q' x { s with heap := h'', toks := tk'' }) →
      wpAny (model prog w) (upA A 2) (call (.ref fn) [x]) Q' E' { s with heap := h', toks := tk' }) :
    ∀ (k i : Nat) (h : Heap) (tk : Nat) (acc : Array Value) (c : Nat), items.size - i = k → i ≤ items.size → KeepBut it s.heap h → h.IsListIter it l i → h.get? S = some (listOf acc c) → acc.toList = items.toList.take i →
    (∀ h' tk' c', KeepBut it s.heap h' → h'.get? S = some (listOf items c') → R (.ok (.ret res)) { s with heap := h', toks := tk' }) →
    codeAny (model prog w) A (.builtin "list.extend.loop" ⟨[.ref S, .ref M, res], []⟩) R { s with heap := h, toks := tk } := by
  intro k
  induction k with
  | zero =>
    intro i h tk acc c hk hi hK hit hS hacc hR
    have hin : i = items.size := by omega
    subst hin
    refine codeAny_builtin F.entry_extend_loop ?_
    rw [Around.under_plainId F.plain_extend_loop _]
    show wpAny _ A.in1 (pyNext (.ref M) >>= _) _ _ _
    refine wpAny_bind (pyNext_map_end (s := { s with heap := h, toks := tk }) hh (hK M _ hMi hM) (hK tp _ hti htp) hit (hl.at fun o e => hK l o hli e) (by simp) fun h' he => ?_)
    refine wpAny_pure (hR h' tk c (fun b o hb e => he b o hb (hK b o hb e)) ?_)
    have e2 : acc = items := by
      apply Array.toList_inj.mp
      rw [hacc]
      exact List.take_of_length_le (by simp)
    rw [← e2]
    exact he S _ hSi hS
  | succ k ih =>
    intro i h tk acc c hk hi hK hit hS hacc hR
    have hlt : i < items.size := by omega
    refine codeAny_builtin F.entry_extend_loop ?_
    rw [Around.under_plainId F.plain_extend_loop _]
    show wpAny _ A.in1 (pyNext (.ref M) >>= _) _ _ _
    refine wpAny_bind (pyNext_map_item (s := { s with heap := h, toks := tk }) (x := items[i]) (hK M _ hMi hM) (hK tp _ hti htp) hit (hl.at fun o e => hK l o hli e) (by simp [hlt]) hMi fun E' h' hit' hs' => ?_)
    have hK' : KeepBut it s.heap h' := fun b o hb e => hs'.extBut b o hb (hK b o hb e)
    refine hcall E' _ items[i] h' tk (by simp) hK' fun h'' tk'' st => ?_
    have hS' : h''.get? S = some (listOf acc c) := st _ _ (hs'.extBut S _ hSi hS)
    have hit'' : h''.IsListIter it l (i + 1) := hit'.at fun o e => st _ _ e
    have hK'' : KeepBut it s.heap h'' := fun b o hb e => st b o (hK' b o hb e)
    have hasz : acc.size = i := by
      have := congrArg List.length hacc
      simp at this
      omega
    show wpAny _ A.in1 (updateSeq S (·.push items[i]) >>= _) _ _ _
    refine wpAny_bind ?_
    refine wpAny_updateSeq hS' rfl (wpAny_pure ⟨plainId_quiet F.plain_extend_loop _, ih (i + 1) _ tk'' (acc.push items[i]) _ (by omega) hlt (fun b o hb e => ?_) (hit''.at fun o e => ?_) (Heap.get?_update_self _ hS' rfl) ?_ hR⟩)
      (by rw [hasz]; have : sizeLine = 16777216 := by decide
          omega) (by show (acc.push items[i]).size ≤ sizeLine + 1; rw [Array.size_push, hasz]; have : sizeLine = 16777216 := by decide
                     omega)
    · have hbS : S ≠ b := fun q => by rw [q] at hS0; rw [hS0] at e; cases e
      exact (Heap.get?_update_other _ _ hbS).trans (hK'' b o hb e)
    · exact (Heap.get?_update_other _ _ hSi).trans e
    · rw [Array.toList_push, hacc, List.take_add_one]
      simp [hlt]
theorem collect_map {Q : List Value → Shared → Prop} {M tp it l fn : Addr} {items : Array Value} (hh : A.handled = none) (hn : items.size ≤ 100000)
    (hM : s.heap.get? M = some (mapObj tp (.ref fn))) (htp : s.heap.get? tp = some (tpObj it)) (hit : s.heap.IsListIter it l 0) (hl : s.heap.IsList l items) (hMi : M ≠ it) (hti : tp ≠ it) (hli : l ≠ it)
    (hcall : ∀ (E' : Value → Shared → Prop) (Q' : Value → Shared → Prop) (x : Value) h' tk', x ∈ items.toList → KeepBut it s.heap h' → (∀ h'' tk'', h'.StaysIn h'' → Q' x { s with heap := h'', toks := tk'' }) →
      wpAny (model prog w) (upA A 2) (call (.ref fn) [x]) Q' E' { s with heap := h', toks := tk' })
    (hQ : ∀ h' tk', KeepBut it s.heap h' → Q items.toList { s with heap := h', toks := tk' }) : wpAny (model prog w) A (collect (.ref M)) Q E s := by
  have hlt : ∀ {b o}, s.heap.get? b = some o → b ≠ s.heap.objs.size := fun e => Nat.ne_of_lt (Heap.lt_size e)
  have hSi : s.heap.objs.size ≠ it := by obtain ⟨o, ho, _⟩ := hit; exact Ne.symm (hlt ho)
  have hSM : s.heap.objs.size ≠ M := Ne.symm (hlt hM)
  unfold collect
  refine wpAny_bind (wpAny_runValue (codeAny_builtin F.entry_proto_collect ?_))
  rw [Around.under_plainId F.plain_proto_collect _]
  show wpAny _ A.in1 (newList [] >>= fun l => again (.builtin "list.__iadd__" ⟨[l, .ref M], []⟩)) _ _ s
  refine wpAny_bind (wpAny_newObj_type ?_)
  refine wpAny_pure ⟨plainId_quiet F.plain_list_iadd _, codeAny_builtin F.entry_list_iadd ?_⟩
  rw [Around.under_plainId F.plain_list_iadd _]
  have hM₁ : (s.heap.push { cls := .type "list", data := .seq ([] : List Value).toArray }).get? M = some (mapObj tp (.ref fn)) := Heap.get?_push_of_some _ hM
  have hT : ({ s with heap := s.heap.push { cls := .type "list", data := .seq ([] : List Value).toArray } } : Shared).TypeIs (.ref M) "map" := ⟨_, hM₁, rfl⟩
  show wpAny _ A.in1 (Builtin.List.listExtendWith (.ref s.heap.objs.size) (.ref M) (.ref s.heap.objs.size)) _ _ _
  unfold Builtin.List.listExtendWith
  refine wpAny_bind (wpAny_typeOf hT ?_)
  have h1 : Builtin.List.listSameRef (.ref s.heap.objs.size) (.ref M) = false := by simp [Builtin.List.listSameRef, hSM]
  have h2 : (Value.type "map" == Value.type "list") = false := by decide
  have h3 : (Value.type "map" == Value.type "tuple") = false := by decide
  simp only [h1, h2, h3, Bool.or_false, Bool.false_eq_true, if_false]
  refine wpAny_bind (pyIter_map hM₁ ?_)
  refine wpAny_bind (wpAny_holding ?_)
  unfold Builtin.List.listLengthHint
  refine wpAny_bind (wpAny_specialOf hT map_no_len ?_)
  show wpAny _ A.in1 (specialOf (Value.ref M) (Str.ofString "__length_hint__") >>= _) _ _ _
  refine wpAny_bind (wpAny_specialOf hT map_no_hint ?_)
  refine wpAny_pure ?_
  show wpAny _ A.in1 (rule "list.extend.makes-room" >>= fun _ => Builtin.List.listTouch (.ref s.heap.objs.size) >>= fun _ =>
    again (.builtin "list.extend.loop" ⟨[.ref s.heap.objs.size, .ref M, .ref s.heap.objs.size], []⟩)) _ _ _
  refine wpAny_bind (wpAny_rule ?_)
  have hS₁ : (s.heap.push { cls := .type "list", data := .seq ([] : List Value).toArray }).get? s.heap.objs.size = some { cls := .type "list", data := .seq ([] : List Value).toArray } := Heap.get?_push_size _ rfl
  refine wpAny_bind ?_
  show wpAny _ A.in1 (updateSeq s.heap.objs.size (·.push .none) >>= fun _ => updateSeq s.heap.objs.size (·.pop)) _ _ _
  refine wpAny_bind (wpAny_updateSeq hS₁ rfl ?_)
  have hS₂ := Heap.get?_update_self (Obj.mapSeq (·.push Value.none)) hS₁ rfl
  refine wpAny_updateSeq hS₂ rfl ?_
  have hS₃ := Heap.get?_update_self (Obj.mapSeq (·.pop)) hS₂ rfl
  have oth : ∀ b o, b ≠ s.heap.objs.size → (s.heap.push { cls := .type "list", data := .seq ([] : List Value).toArray }).get? b = some o →
      (((s.heap.push { cls := .type "list", data := .seq ([] : List Value).toArray }).update s.heap.objs.size (Obj.mapSeq (·.push Value.none))).update s.heap.objs.size (Obj.mapSeq (·.pop))).get? b = some o :=
    fun b o hb e => (Heap.get?_update_other _ _ (Ne.symm hb)).trans ((Heap.get?_update_other _ _ (Ne.symm hb)).trans e)
  have keep : ∀ b o, s.heap.get? b = some o → _ := fun b o e => oth b o (hlt e) (Heap.get?_push_of_some _ e)
  refine wpAny_pure ⟨plainId_quiet F.plain_extend_loop _, ext_map (s := s) hh hn hM htp hl hMi hti hli hSi (Heap.get?_none_of_le (Nat.le_refl _)) hcall items.size 0 _ s.toks #[] _ (by simp) (Nat.zero_le _) (fun b o _ e => keep b o e) (hit.at fun o e => keep it o e) hS₃ (by simp) fun h' tk' c' hK hS' => ?_⟩
  show wpAny _ A (load s.heap.objs.size >>= _) _ _ _
  refine wpAny_bind (wpAny_load hS' ?_)
  exact wpAny_pure (hQ h' tk' hK)
end
end Mine
end

section
open PySem PySem.W PyProof.Rows
open AutoSeq1 (wpAny_loadPart')
set_option maxRecDepth 100000
namespace Mine
section
variable {prog : Program} {w : World} {A : Around} {E : Value → Shared → Prop} {s : Shared}
theorem code_tuple_map {Q₁ : Value → Shared → Prop} {M tp it l fn : Addr} {items : Array Value} (hh : A.handled = none) (hn : items.size ≤ 100000)
    (hM : s.heap.get? M = some (mapObj tp (.ref fn))) (htp : s.heap.get? tp = some (tpObj it)) (hit : s.heap.IsListIter it l 0) (hl : s.heap.IsList l items) (hMi : M ≠ it) (hti : tp ≠ it) (hli : l ≠ it)
    (hcall : ∀ (E' : Value → Shared → Prop) (Q' : Value → Shared → Prop) (x : Value) h' tk', x ∈ items.toList → KeepBut it s.heap h' → (∀ h'' tk'', h'.StaysIn h'' → Q' x { s with heap := h'', toks := tk'' }) →
      wpAny (model prog w) (upA A.in1 2) (call (.ref fn) [x]) Q' E' { s with heap := h', toks := tk' })
    (hQ : ∀ h' tk', KeepBut it s.heap h' → Q₁ (.ref h'.objs.size) { s with heap := h'.push { cls := .type "tuple", data := .seq items }, toks := tk' }) :
    codeAny (model prog w) A (.call (.builtin "tuple.__new__") ⟨[.type "tuple", .ref M], []⟩) (wants Q₁ E) s := by
  refine codeAny_of_tree ?_
  show wpAny _ A.in1 (do checkBuiltinCall "tuple.__new__" ⟨[.type "tuple", .ref M], []⟩; again (.builtin "tuple.__new__" ⟨[.type "tuple", .ref M], []⟩)) _ _ s
  refine wpAny_bind (wpAny_of_eq (F.newCall_tuple_1 _) (wpAny_pure ⟨plainId_quiet F.plain_tuple_new _, codeAny_builtin F.entry_tuple_new ?_⟩))
  rw [Around.under_plainId F.plain_tuple_new _]
  have hsub := sub_tuple_self
  have hinit := init_tuple_lookup
  have hmh := madeHere_tuple
  have hTI : s.TypeIs (.ref M) "map" := ⟨_, hM, rfl⟩
  wp_walk using wpAny_typeOf hTI, collect_map (A := A.in1) hh hn hM htp hit hl hMi hti hli hcall
  intro h' tk' hK
  show wpAny _ _ (Builtin.Tuple.tupleExact items.toList.toArray >>= fun v => ret v) _ _ _
  unfold Builtin.Tuple.tupleExact
  refine wpAny_bind (wpAny_newObj_type ?_ (by show items.toList.toArray.size ≤ sizeLine; simp only [Array.toArray_toList]; rw [sizeLine]; omega))
  refine wpAny_pure ?_
  have e : items.toList.toArray = items := by simp
  rw [e]
  exact hQ h' tk' hK
theorem call_tuple_map {Q : Value → Shared → Prop} {M tp it l fn : Addr} {items : Array Value} (hh : A.handled = none) (hn : items.size ≤ 100000)
    (hM : s.heap.get? M = some (mapObj tp (.ref fn))) (htp : s.heap.get? tp = some (tpObj it)) (hit : s.heap.IsListIter it l 0) (hl : s.heap.IsList l items) (hMi : M ≠ it) (hti : tp ≠ it) (hli : l ≠ it)
    (hcall : ∀ (E' : Value → Shared → Prop) (Q' : Value → Shared → Prop) (x : Value) h' tk', x ∈ items.toList → KeepBut it s.heap h' → (∀ h'' tk'', h'.StaysIn h'' → Q' x { s with heap := h'', toks := tk'' }) →
      wpAny (model prog w) (upA A 4) (call (.ref fn) [x]) Q' E' { s with heap := h', toks := tk' })
    (hQ : ∀ h' tk', KeepBut it s.heap h' → Q (.ref h'.objs.size) { s with heap := h'.push { cls := .type "tuple", data := .seq items }, toks := tk' }) :
    wpAny (model prog w) A (call (.type "tuple") [.ref M]) Q E s := by
  refine callType_codes (Q₁ := fun obj s₁ => s₁.TypeIs obj "tuple" ∧ Q obj s₁) F.called_tuple (F.typeCall_tuple_1 _) F.entry_object_init
    (code_tuple_map hh hn hM htp hit hl hMi hti hli hcall fun h' tk' hK => ⟨⟨_, Heap.get?_push_size _ rfl, rfl⟩, hQ h' tk' hK⟩) fun obj s₁ h₁ => ?_
  exact ⟨h₁.1, F.args_object_init_2 obj _, object_init_meets F.called_tuple.init.lookup F.called_tuple.made (by decide) prog w A.in1 _ s₁ ⟨h₁.1, rfl, h₁.2⟩⟩
end
theorem Fr.keepBut {h₀ h h' : Heap} {L it : Addr} {m : Str → Option Value} (F : Fr h₀ L h m) (hL : it ≠ L) (h0 : h₀.get? it = none) (hK : KeepBut it h h') : Fr h₀ L h' m := by
  obtain ⟨o, a, b, h1, r⟩ := F.ns
  exact ⟨⟨o, a, b, hK L o (Ne.symm hL) h1, r⟩, fun b o e => hK b o (fun q => by rw [q, h0] at e; cases e) (F.keep b o e), F.above⟩
/-- tuple(map(fspath, l)) over a list of texts of an older heap -/
theorem tuple_fspath {w : World} {dp un : Nat} {outer : List Env} {gd : Option (List Code)} {base h₀ : Heap} {s : Shared} {L : Addr} {m mg mb : Str → Option Value} {mean : ExcName → Option Value} {env : Env}
    {Q : Value → Shared → Prop} {E : Value → Shared → Prop} {M tp it l : Addr} {items : Array Value} {n : Nat} {news : List (Addr × Obj)}
    (B : Below (Arnd dp outer gd un) base outer h₀) (X : (hd.heap_39 w.params).In h₀) (T : Top hd.view_39 (looseW hd.view_39 []) mean mg mb h₀) (F : Fr h₀ L s.heap m) (N : News h₀ L s.heap ((M, mapObj tp (.ref 101)) :: (tp, tpObj it) :: (it, itObj l 0) :: news))
    (ho : ∀ p ∈ news, p.1 < it) (h1 : it < tp) (h2 : tp < M) (hl : h₀.get? l = some (listOf items n)) (hn : items.size ≤ 100) (hit : ∀ x ∈ items.toList, ∃ y t, x = .str y t)
    (hf : env.frame = some L) (hk : env.scope.kind = .function) (hdp : dp + 3 < recursionLimit) (hun : un + 20 < cLine)
    (h : ∀ D h' tk, Fr h₀ L h' m → News h₀ L h' ((D, { cls := .type "tuple", data := .seq items }) :: news) → (∀ p ∈ news, p.1 < D) → Q (.ref D) { s with heap := h', toks := tk }) :
    wpAny (model PySem.Challenge.rw_pd0056_01.row.prog w) ((Arnd dp outer gd un).deeper env) (call (.type "tuple") [.ref M]) Q E s := by
  have nM := N _ (.head _)
  have nt := N _ (.tail _ (.head _))
  have ni := N _ (.tail _ (.tail _ (.head _)))
  have hli : l ≠ it := fun q => by rw [q, ni.2.2] at hl; cases hl
  refine call_tuple_map (fn := 101) (items := items) rfl (by omega) nM.1 nt.1 ⟨_, ni.1, rfl, rfl⟩ ⟨_, F.keep _ _ hl, rfl, n, rfl⟩ (Nat.ne_of_gt (Nat.lt_trans h1 h2)) (Nat.ne_of_gt h1) hli ?_ ?_
  · intro E' Q' x h' tk' hx hK hQ
    obtain ⟨y, t, rfl⟩ := hit x hx
    have F' := Fr.keepBut F ni.2.1 ni.2.2 hK
    refine Spec.useX (dp := dp) (un := un) (outer := outer) (gd := gd) (k := 4) (env := env) (s := { s with heap := h', toks := tk' }) (spec_fspath w y t) B X T F' hf hk (by omega) (by omega) trivial fun v h'' tk'' F'' st e => ?_
    have e2 : v = .str y t := e
    subst e2
    exact hQ h'' tk'' st
  · intro h' tk' hK
    have F' := Fr.keepBut F ni.2.1 ni.2.2 hK
    have N' : News h₀ L h' news := fun p hp => ⟨hK _ _ (Nat.ne_of_lt (ho p hp)) (N p (.tail _ (.tail _ (.tail _ hp)))).1, (N p (.tail _ (.tail _ (.tail _ hp)))).2⟩
    exact h _ _ _ (F'.push _) (News.push F' N' _) fun p hp => Heap.lt_size (N' p hp).1
end Mine
end

section
open PySem PySem.W PyProof.Rows PySem.Spec PySem.Calls
set_option maxRecDepth 100000
namespace Mine
open LCg
def TupAt (h₀ : Heap) (ax : Addr) (its : Array Value) (news : List (Addr × Obj)) : Prop := h₀.IsTuple ax its ∨ ∃ o, (ax, o) ∈ news ∧ o.cls = .type "tuple" ∧ ∃ n, o.data = .seq its n
theorem TupAt.tup {h₀ h : Heap} {L ax : Addr} {its : Array Value} {news : List (Addr × Obj)} (x : TupAt h₀ ax its news) (k : ∀ b o, h₀.get? b = some o → h.get? b = some o) (N : News h₀ L h news) : h.IsTuple ax its := by
  rcases x with ⟨o, e, r⟩ | ⟨o, hm, r⟩
  · exact ⟨o, k _ _ e, r⟩
  · exact ⟨o, (N _ hm).1, r⟩
section
variable {prog : Program} {w : World} {A : Around} {E : Value → Shared → Prop} {s : Shared} {h₀ : Heap} {L : Addr} {m : Str → Option Value} {env : Env}
theorem tup_st {ax I : Addr} {its : Array Value} : ∀ i (h h' : Heap) (o : Obj) (nw : List (Addr × Obj)), (h.IsTupleIter I ax i ∧ h.IsTuple ax its) → h.get? I = some o → h'.get? I = some o → (∀ b o, h₀.get? b = some o → h'.get? b = some o) → News h₀ L h' nw → TupAt h₀ ax its nw → (h'.IsTupleIter I ax i ∧ h'.IsTuple ax its) :=
  fun i h h' o nw st e e' k N S => ⟨by obtain ⟨o', q, r⟩ := st.1; rw [e] at q; cases q; exact ⟨o, e', r⟩, S.tup k N⟩
def TupSrc (prog : Program) (w : World) (A : Around) (h₀ : Heap) (L : Addr) (m : Str → Option Value) (env : Env) (elt : Expr) (x : Str) (scope : Scope) (cl : List (Str × Addr)) (Fin : Shared → List Value → List (Addr × Obj) → Prop) (xv : Value) (s₁ : Shared) : Prop :=
  ∃ ax its news, xv = .ref ax ∧ A.handled = none ∧ Fr h₀ L s₁.heap m ∧ News h₀ L s₁.heap news ∧ TupAt h₀ ax its news ∧ its.size ≤ sizeLine ∧
    ∀ s₂ : Shared, (∃ h, s₂ = { s₁ with heap := h }) → CompRest prog w A h₀ L m env elt x scope cl s₂ (TupAt h₀ ax its) (fun i v => its[i]? = some v) (Fin s₂) its.size 0 [] news
theorem TupSrc.ledger {elt : Expr} {x : Str} {scope : Scope} {cl : List (Str × Addr)} {Fin : Shared → List Value → List (Addr × Obj) → Prop} {ax : Addr} {its : Array Value} {k : Nat} {news : List (Addr × Obj)} {s₁ : Shared}
    (hh : A.handled = none) (F : Fr h₀ L s₁.heap m) (N : News h₀ L s₁.heap news) (hm : (ax, ({ cls := .type "tuple", data := .seq its k } : Obj)) ∈ news) (hsz : its.size ≤ sizeLine)
    (h : ∀ g, CompRest prog w A h₀ L m env elt x scope cl { s₁ with heap := g } (TupAt h₀ ax its) (fun i v => its[i]? = some v) (Fin { s₁ with heap := g }) its.size 0 [] news) :
    TupSrc prog w A h₀ L m env elt x scope cl Fin (.ref ax) s₁ := ⟨ax, its, news, rfl, hh, F, N, .inr ⟨_, hm, rfl, _, rfl⟩, hsz, fun _ ⟨g, e⟩ => e ▸ h g⟩
theorem Assign_ListComp_Tup {elt iter : Expr} {x y : Str} {px py : Pos} {scope : Scope} {cl : List (Str × Addr)} {pos spos : Pos} {Q : Flow → Shared → Prop} (F₀ : Fr h₀ L s.heap m) (hLe : env.locals = L)
    (hsw : swapsWith (.ListComp elt [⟨.Name x px, iter, [], 0⟩] scope pos) (some (.Name y py)) spos.line env = pure true)
    (hclos : closureFor scope env = pure cl) (hcell : ∀ z ∈ scope.names, z.2 ≠ .cell) (hkind : scope.kind = .function)
    (hnames : ∀ z ∈ scope.names, z.2 = .local → scope.names.lookup z.1 = some .local) (hx : scope.names.lookup x = some .local)
    (hy : env.kindOf y = some .local) (hp : (env.scope.kind == .class || (env.scope.kind == .module && env.locals != env.globals)) = false)
    (h : wpAny (model prog w) A (eval iter env) (TupSrc prog w A h₀ L m env elt x scope cl (fun s₂ => FinA h₀ L m s₂ y Q)) E s)
    (hs : ∀ x, foldedSetIterable iter env x = pure x := by intro _; rfl) :
    wpAny (model prog w) A (exec (.Assign [.Name y py] (.ListComp elt [⟨.Name x px, iter, [], 0⟩] scope pos) spos) env) Q E s := by
  subst hLe
  rw [exec_Assign_Name_used _ _ _ _ hsw]
  refine wpAny_bind (wpAny_standAt (wpAny_bind ?_))
  show wpAny _ A (do let _ ← comprehension (.ListComp elt [⟨.Name x px, iter, [], 0⟩] scope pos) scope env _ (newList []) false (eval iter env) (some (assign (.Name y py) env))) _ _ s
  refine wpAny_bind (wpAny_mono (wpAny_comprehension_free (use := some (assign (.Name y py) env)) (Q := fun _ s' => Q .next s') rfl hs hclos hkind hnames
    (wpAny_mono h (fun xv s₁ h₁ => ?_) fun _ _ e => e)) (fun _ s' hq => wpAny_pure (wpAny_pure hq)) fun _ _ e => e)
  obtain ⟨ax, its, news, rfl, hh, F, N, S, hsz, R⟩ := h₁
  have hl := S.tup F.keep N
  have hlt : ax < s₁.heap.objs.size := by obtain ⟨_, e, _⟩ := hl; exact Heap.lt_size e
  refine wpAny_pyIter_tuple hl ?_
  have up : ∀ b o, s₁.heap.get? b = some o → (s₁.heap.push { cls := .type "tuple_iterator", data := .fields #[.ref ax, .int 0 0] }).get? b = some o := fun b o e => Heap.get?_push_of_some _ e
  refine block_U (Walks.tuple hh s₁.heap.objs.size ax (Nat.ne_of_lt hlt) its) hsz (fun i h st => by obtain ⟨o, e, _⟩ := st.1; exact ⟨o, e⟩) tup_st hcell hkind hx ⟨⟨_, Heap.get?_push_size _ rfl, rfl, rfl⟩, hl.push _⟩ (fun b hb => ?_)
    (F.keeps up) (N.grown up) (Nat.ne_of_lt F.ns.lt) (next_is_new F) (fun p hp => Nat.ne_of_lt (Heap.lt_size (N p hp).1)) S (R _ ⟨_, rfl⟩) ?_
  · show b < (s₁.heap.push _).objs.size
    rw [Heap.size_push]
    rcases List.mem_cons.mp hb with rfl | hb
    · exact Nat.lt_succ_self _
    · rw [List.mem_singleton.mp hb]; exact Nat.lt_succ_of_lt hlt
  · intro D C h' tk m' ys news' F' N' o1 hn hC₀ hD₀ hCL hDL hCD offC fin
    show wpAny _ A (assign (.Name y py) env (.ref D)) _ _ _
    refine wpAny_assign_Name (wpAny_storeName_local hy F'.ns (fun h₂ hn₂ hs₂ => ?_) hp)
    have hL₀ : h₀.get? env.locals = none := Heap.get?_none_of_le F'.above
    have F₂ : Fr h₀ env.locals h₂ (fun z => if z = y then some (.ref D) else m z) := ⟨hn₂, fun b o e => hs₂.extBut b o (fun q => by rw [q, hL₀] at e; cases e) (F'.keep b o e), F'.above⟩
    refine ⟨m', hn.sameBut hs₂ hCL, fun h'' hs'' => fin D h'' _ (F₂.change hs'' hCL hC₀) (fun p hp => ?_) o1⟩
    have z : h₂.get? p.1 = some p.2 := hs₂.extBut _ _ (N' p hp).2.1 (N' p hp).1
    refine ⟨hs''.extBut _ _ ?_ z, (N' p hp).2⟩
    rcases List.mem_cons.mp hp with rfl | hp
    · exact Ne.symm hCD
    · exact offC p hp
end
end Mine
end

section
open PySem PySem.W PyProof.Rows PySem.Spec PySem.Calls
set_option maxRecDepth 100000
namespace Mine
theorem slot_bool_hash : Slot "bool" "__hash__" "int.__hash__" :=
  .of (owner := "int") (n := "__hash__") (by rw [typeLookup_type, builtinLookup_eq_fast]; kernel_rfl) (by decide +kernel) (by decide +kernel) (by decide +kernel)
    (by first | exact .inl (by decide +kernel) | exact .inr (by decide +kernel)) (by rw [isSubtype_type]; kernel_rfl)
theorem entry_set_iter : entryFor table "set.__iter__" = some Builtin.«frozenset.__iter__» :=
  entryFor_alias (id' := "frozenset.__iter__") (by kernel_rfl) rfl (by decide +kernel) (by kernel_rfl)
theorem args_set_iter (a : Value) : argsOk "set.__iter__" ⟨[a], []⟩ := by unfold argsOk; kernel_rfl
theorem slot_setit_next : Slot "set_iterator" "__next__" "set_iterator.__next__" :=
  .of (owner := "set_iterator") (n := "__next__") (by rw [typeLookup_type, builtinLookup_eq_fast]; kernel_rfl) (by decide +kernel) (by decide +kernel) (by decide +kernel)
    (by first | exact .inl (by decide +kernel) | exact .inr (by decide +kernel)) (by rw [isSubtype_type]; kernel_rfl)
theorem entry_setit_next : entryFor table "set_iterator.__next__" = some Builtin.«set_iterator.__next__» := entryFor_of_tree (by kernel_rfl)
theorem args_setit_next (a : Value) : argsOk "set_iterator.__next__" ⟨[a], []⟩ := by unfold argsOk; kernel_rfl
section
variable {prog : Program} {w : World} {A : Around} {E : Value → Shared → Prop} {s : Shared}
theorem pyHash_true {Q : Int → Shared → Prop} (h : Q 1 { s with toks := s.toks + 1 }) : wpAny (model prog w) A (pyHash (.bool true)) Q E s := by
  unfold pyHash
  refine wpAny_bind ?_
  rw [cRoomFor, if_neg (by rw [show [Value.bool true].any Value.onHeap = false from rfl]; exact Bool.false_ne_true)]; refine wpAny_pure ?_
  refine wpAny_bind (wpAny_specialOf (PySem.typeIs_bool s true) slot_bool_hash.lookup ?_)
  show wpAny _ _ (if (some (Value.builtin "int.__hash__") == some Value.none) = true then _ else _) Q E s
  rw [if_neg (by rw [beq_builtin_none]; exact Bool.false_ne_true)]
  refine wpAny_bind (wpAny_specialOf (PySem.typeIs_bool s true) slot_bool_hash.lookup ?_)
  show wpAny _ _ (callSpecialIfBoundUnlessNone? (.bool true) "__hash__" _ >>= _) Q E s
  refine wpAny_bind (wpAny_callSpecialIfBoundUnlessNone?_slot (PySem.typeIs_bool s true) slot_bool_hash
    (wpAny_call_entry slot_bool_hash (PySem.typeIs_bool s true) entry_int_hash
      (show wpAny _ _ (do ret (← mkInt (rawHash 1))) _ _ s from wpAny_ret_mkInt ?_) (args_int_hash _)))
  show wpAny _ _ (if (decide (-(2 : Int) ^ 63 ≤ rawHash 1) && decide (rawHash 1 < 2 ^ 63)) = true then _ else _) Q E _
  rw [if_pos (by decide +kernel)]
  exact wpAny_pure h
/-- the set ahead of its first element, and behind it -/
def set0 (led : Bool) : Obj := { cls := .type "set", data := .set #[] 0 (SetTable.fresh 0 0 led) }
def tab1 (led : Bool) : SetTable := (layNew (SetTable.fresh 0 0 led) #[] 1 (.bool true)).2.1
def set1 (led : Bool) : Obj := Obj.putSet #[(1, .bool true)] (tab1 led) (set0 led)
theorem lay1 (led : Bool) : layNew (SetTable.fresh 0 0 led) #[] 1 (.bool true) = (#[(1, .bool true)], tab1 led, false, false) := by cases led <;> decide +kernel
theorem tab1_plain (led : Bool) : (tab1 led).plain = true := by cases led <;> decide +kernel
theorem tab1_full (led : Bool) : (tab1 led).tooFull = false := by cases led <;> decide +kernel
theorem tab1_fits (led : Bool) : (tab1 led).fits 1 = true := by cases led <;> decide +kernel
theorem tab1_led (led : Bool) : (tab1 led).led = led := by cases led <;> decide +kernel
theorem tab1_place (led : Bool) : (tab1 led).place = #[1] := by cases led <;> decide +kernel
theorem set1_data (led : Bool) : ∃ ep, (set1 led).data = .set #[(1, .bool true)] ep (tab1 led) := ⟨_, rfl⟩
theorem set1_cls (led : Bool) : (set1 led).cls = .type "set" := rfl
end
end Mine
end

section
open PySem PySem.W PyProof.Rows PySem.Spec PySem.Calls
set_option maxRecDepth 100000
namespace Mine
section
variable {prog : Program} {w : World} {A : Around} {E : Value → Shared → Prop} {s : Shared}
theorem hash_val : hashByValue 8 (.bool true) = pure true := rfl
theorem add_first {D : Addr} {led : Bool} {Q : Value → Shared → Prop} (hD : s.heap.get? D = some (set0 led))
    (h : ∀ h', Heap.SameBut D s.heap h' → h'.get? D = some (set1 led) → Q .none { s with heap := h', toks := s.toks + 1 }) :
    wpAny (model prog w) A (call (.builtin "set.add") [.ref D, .bool true]) Q E s := by
  have hT : s.TypeIs (.ref D) "set" := ⟨_, hD, rfl⟩
  refine wpAny_call_entry F.slot_set_add hT F.entry_set_add ?_ (F.args_set_add_2 _ _)
  unfold Builtin.«set.add» Builtin.Frozenset.oneOther
  simp only [List.isEmpty_nil, bind_assoc]
  unfold Builtin.Frozenset.addrOf setAdd
  refine wpAny_bind (wpAny_pure ?_)
  try dsimp only
  refine wpAny_bind (wpAny_pure ?_)
  try dsimp only
  refine wpAny_bind ?_
  refine wpAny_holding ?_
  refine wpAny_bind (pyHash_true ?_)
  unfold setAddHashed setAddHashedIn
  refine wpAny_holding (wpAny_bind (wpAny_setState_of (s := { s with toks := s.toks + 1 }) (o := set0 led) (es := #[]) (ep := 0) (t := SetTable.fresh 0 0 led) hD rfl rfl ?_))
  dsimp only
  rw [show byScan (.bool true) #[] = true by decide +kernel]
  simp only [↓reduceIte]
  unfold setAddByScan
  refine wpAny_bind ?_
  refine wpAny_bind (wpAny_rule ?_)
  refine wpAny_bind (m := setScan D (.bool true) 1 true #[]) (wpAny_pure ?_)
  dsimp only
  rw [lay1]
  dsimp only
  refine wpAny_bind (wpAny_pure ?_)
  rw [tab1_plain]
  simp only [↓reduceIte]
  rw [hash_val]
  refine wpAny_bind (wpAny_pure ?_)
  simp only [↓reduceIte]
  refine wpAny_bind (wpAny_storeSet_of (o := set0 led) (es := #[]) (ep := 0) (t := SetTable.fresh 0 0 led) hD rfl ?_ (by decide))
  rw [tab1_full]
  simp only [Bool.and_false, Bool.false_eq_true, ↓reduceIte]
  refine wpAny_pure (wpAny_pure ?_)
  exact wpAny_pure ⟨_, rfl, h _ (Heap.SameBut.update ..) (Heap.get?_update_self _ hD rfl)⟩
theorem eq_true {Q : Bool → Shared → Prop} (h : Q true s) : wpAny (model prog w) A (eqBool (.bool true) (.bool true)) Q E s := by
  unfold eqBool
  refine wpAny_holding ?_
  rw [if_pos (by decide)]
  exact wpAny_bind (wpAny_rule (wpAny_pure h))
theorem add_again {D : Addr} {led : Bool} {Q : Value → Shared → Prop} (hD : s.heap.get? D = some (set1 led)) (h : Q .none { s with toks := s.toks + 1 }) :
    wpAny (model prog w) A (call (.builtin "set.add") [.ref D, .bool true]) Q E s := by
  have hT : s.TypeIs (.ref D) "set" := ⟨_, hD, rfl⟩
  refine wpAny_call_entry F.slot_set_add hT F.entry_set_add ?_ (F.args_set_add_2 _ _)
  unfold Builtin.«set.add» Builtin.Frozenset.oneOther
  simp only [List.isEmpty_nil, bind_assoc]
  unfold Builtin.Frozenset.addrOf setAdd
  refine wpAny_bind (wpAny_pure ?_)
  try dsimp only
  refine wpAny_bind (wpAny_pure ?_)
  try dsimp only
  refine wpAny_bind ?_
  refine wpAny_holding ?_
  refine wpAny_bind (pyHash_true ?_)
  unfold setAddHashed setAddHashedIn
  refine wpAny_holding (wpAny_bind (wpAny_setState_of (s := { s with toks := s.toks + 1 }) (o := set1 led) (es := #[(1, .bool true)]) (ep := 1) (t := tab1 led) hD rfl (tab1_fits led) ?_))
  dsimp only
  rw [show byScan (.bool true) #[(1, .bool true)] = true by decide +kernel]
  simp only [↓reduceIte]
  unfold setAddByScan
  refine wpAny_bind ?_
  refine wpAny_bind (wpAny_rule ?_)
  refine wpAny_bind (m := setScan D (.bool true) 1 true #[(1, .bool true)]) ?_
  show wpAny _ _ (setScanFrom D (.bool true) 1 true [(1, .bool true)] 0) _ _ _
  unfold setScanFrom
  simp only [beq_self_eq_true, ↓reduceIte]
  refine wpAny_bind (wpAny_setEpoch_of (s := { s with toks := s.toks + 1 }) (o := set1 led) (es := #[(1, .bool true)]) (ep := 1) (t := tab1 led) hD rfl (tab1_fits led) ?_)
  refine wpAny_bind (eq_true ?_)
  simp only [Bool.and_self, ↓reduceIte]
  refine wpAny_pure ?_
  dsimp only
  refine wpAny_pure (wpAny_pure ?_)
  exact wpAny_pure ⟨_, rfl, h⟩
/-- the set's iterator -/
def setIt (slot i : Nat) (sv : Value) : Obj := { cls := .type "set_iterator", data := .fields #[.int slot 0, .int i 0, sv, .int 1 0, .int 1 0] }
abbrev byT (w : World) : Bool := w.params.followText "set-order"
theorem ask_text {Q : Bool → Shared → Prop} (h : Q (byT w) s) : wpAny (model prog w) A setsByText Q E s := by
  unfold setsByText
  exact wpAny_bind (wpAny_askSetting (wpAny_pure h))
theorem new_set {Q : Value → Shared → Prop} (h : Q (.ref s.heap.objs.size) { s with heap := s.heap.push (set0 (!byT w)) }) : wpAny (model prog w) A (newSet (.type "set")) Q E s := by
  unfold newSet
  exact wpAny_bind (ask_text (wpAny_newObj_type h))
theorem iter_set {D : Addr} {led : Bool} {Q : Value → Shared → Prop} (hD : s.heap.get? D = some (set1 led)) (h : Q (.ref s.heap.objs.size) { s with heap := s.heap.push (setIt 0 0 (.ref D)) }) : wpAny (model prog w) A (pyIter (.ref D)) Q E s := by
  have hT : s.TypeIs (.ref D) "set" := ⟨_, hD, rfl⟩
  refine wpAny_pyIter_slot hT F.slot_set_iter (wpAny_call_entry F.slot_set_iter hT entry_set_iter ?_ (args_set_iter _))
  unfold Builtin.«frozenset.__iter__» Builtin.Frozenset.slot0 Builtin.Frozenset.sizeOf Builtin.Frozenset.addrOf setEntries setDrawn setEpoch
  wp_walk using wpAny_setState_of hD rfl (tab1_fits led), ask_text
  split
  · rename_i hc
    exfalso
    rw [Bool.and_eq_true] at hc
    obtain ⟨_, h2⟩ := hc
    revert h2
    cases led <;> decide +kernel
  wp_walk using wpAny_setState_of hD rfl (tab1_fits led)
  exact ⟨_, rfl, "set_iterator", _, ⟨setIt 0 0 (.ref D), Heap.get?_push_size (o := setIt 0 0 (.ref D)) _ rfl, rfl⟩, slot_setit_next.lookup, h⟩
theorem pick_one (f : Nat → Nat) (x : Int × Value) : pickOrder f #[x] = #[x] := by
  simp [pickOrder, pickOrder.go, Nat.mod_one]
theorem setNext_item {D : Addr} {Q : Option (Value × Nat) → Shared → Prop} (hD : s.heap.get? D = some (set1 (!byT w)))
    (h : ∀ sl, (byT w = false → sl = 2) → Q (some (.bool true, sl)) s) : wpAny (model prog w) A (setNext D 0 0 1) Q E s := by
  unfold setNext
  refine wpAny_bind (wpAny_setState_of hD rfl (tab1_fits _) ?_)
  dsimp only
  refine wpAny_bind (ask_text ?_)
  cases hb : byT w with
  | true =>
    rw [hb] at hD
    simp only [↓reduceIte]
    rw [if_neg (by decide)]
    unfold setWalk
    refine wpAny_bind (wpAny_bind (wpAny_setState_of hD rfl (tab1_fits _) ?_))
    dsimp only
    refine wpAny_bind (ask_text ?_)
    rw [hb]
    simp only [↓reduceIte]
    refine wpAny_bind (wpAny_askSetting (wpAny_pure ?_))
    rw [pick_one]
    exact wpAny_pure (h 0 (fun e => by rw [hb] at e; cases e))
  | false =>
    simp only [Bool.false_eq_true, ↓reduceIte]
    rw [if_neg (by decide +kernel)]
    refine wpAny_bind (wpAny_of_eq (a := ()) (by kernel_rfl) ?_)
    exact wpAny_pure (h 2 fun _ => rfl)
theorem setNext_end {D : Addr} {sl : Nat} {Q : Option (Value × Nat) → Shared → Prop} (hD : s.heap.get? D = some (set1 (!byT w))) (hsl : byT w = false → sl = 2)
    (h : Q none s) : wpAny (model prog w) A (setNext D sl 1 1) Q E s := by
  unfold setNext
  refine wpAny_bind (wpAny_setState_of hD rfl (tab1_fits _) ?_)
  dsimp only
  refine wpAny_bind (ask_text ?_)
  cases hb : byT w with
  | true =>
    rw [hb] at hD
    simp only [↓reduceIte]
    rw [if_neg (by decide)]
    unfold setWalk
    refine wpAny_bind (wpAny_bind (wpAny_setState_of hD rfl (tab1_fits _) ?_))
    dsimp only
    refine wpAny_bind (ask_text ?_)
    rw [hb]
    simp only [↓reduceIte]
    refine wpAny_bind (wpAny_askSetting (wpAny_pure ?_))
    rw [pick_one]
    exact wpAny_pure h
  | false =>
    have e := hsl hb
    subst e
    simp only [Bool.false_eq_true, ↓reduceIte]
    rw [if_neg (by decide +kernel)]
    refine wpAny_bind (wpAny_of_eq (a := ()) (by kernel_rfl) ?_)
    exact wpAny_pure h
theorem setNext_end' {D : Addr} {sl : Nat} {Q : Option (Value × Nat) → Shared → Prop} (hD : s.heap.get? D = some (set1 (!byT w))) (hsl : byT w = false → sl = 2)
    (h : Q none s) : wpAny (model prog w) A (setNext D ((sl : Nat) : Int).toNat (((1 : Nat) : Int)).toNat (Int.toNat 1)) Q E s := setNext_end hD hsl h
theorem setNext_item' {D : Addr} {Q : Option (Value × Nat) → Shared → Prop} (hD : s.heap.get? D = some (set1 (!byT w)))
    (h : ∀ sl, (byT w = false → sl = 2) → Q (some (.bool true, sl)) s) : wpAny (model prog w) A (setNext D ((0 : Nat) : Int).toNat (((0 : Nat) : Int)).toNat (Int.toNat 1)) Q E s := setNext_item hD h
theorem next_set {D it : Addr} {Q : Option Value → Shared → Prop} (hD : s.heap.get? D = some (set1 (!byT w))) (hit : s.heap.get? it = some (setIt 0 0 (.ref D)))
    (h : ∀ h' sl, Heap.SameBut it s.heap h' → h'.get? it = some (setIt sl 1 (.ref D)) → (byT w = false → sl = 2) → Q (some (.bool true)) { s with heap := h' }) : wpAny (model prog w) A (pyNext (.ref it)) Q E s := by
  have hT : s.TypeIs (.ref it) "set_iterator" := ⟨_, hit, rfl⟩
  unfold pyNext
  refine wpAny_bind (wpAny_attempt (wpAny_callSpecial?_slot (name := Str.ofString "__next__") hT slot_setit_next
    (wpAny_call_entry slot_setit_next hT entry_setit_next ?_ (args_setit_next _))))
  unfold Builtin.«set_iterator.__next__» setEntries
  wp_walk using wpAny_setState_of hD rfl (tab1_fits (!byT w)), setNext_item' (prog := prog) (w := w) (A := A.in1) (s := s) hD
  intro sl hsl
  dsimp only
  refine wpAny_bind (wpAny_setField_rec (s := s) (k := 0) hit (by simp) fun h₁ g₁ b₁ => ?_)
  refine wpAny_bind (wpAny_setField_rec (s := { s with heap := h₁ }) (k := 1) g₁ (by simp) fun h₂ g₂ b₂ => ?_)
  exact wpAny_pure ⟨_, rfl, wpAny_pure (h h₂ sl (b₁.trans b₂) g₂ hsl)⟩
theorem end_set {D it : Addr} {sl : Nat} {Q : Option Value → Shared → Prop} (hh : A.handled = none) (hD : s.heap.get? D = some (set1 (!byT w))) (hit : s.heap.get? it = some (setIt sl 1 (.ref D))) (hsl : byT w = false → sl = 2)
    (h : ∀ h', Heap.ExtBut it s.heap h' → Q none { s with heap := h' }) : wpAny (model prog w) A (pyNext (.ref it)) Q E s := by
  have hT : s.TypeIs (.ref it) "set_iterator" := ⟨_, hit, rfl⟩
  unfold pyNext
  refine wpAny_bind (wpAny_attempt (wpAny_callSpecial?_slot (name := Str.ofString "__next__") hT slot_setit_next
    (wpAny_call_entry slot_setit_next hT entry_setit_next ?_ (args_setit_next _))))
  unfold Builtin.«set_iterator.__next__» setEntries
  wp_walk using wpAny_setState_of hD rfl (tab1_fits (!byT w)), setNext_end' (prog := prog) (w := w) (A := A.in1) (s := s) hD hsl
  simp only [raiseNew]
  refine wpAny_bind (wpAny_handled ?_)
  first | rw [show A.in1.handled = none from hh] | rw [hh]
  refine wpAny_bind (wpAny_pure (wpAny_throw ?_))
  refine wpAny_bind (wpAny_isInstance (T := "StopIteration") (b := true) ⟨_, Heap.get?_push_size _ rfl, rfl⟩ isSubtype_stop ?_)
  exact wpAny_pure (h _ (((Heap.SameBut.update ..).extBut.push _).push _))
theorem unpack_set {D : Addr} {Q : List Value → Shared → Prop} (hh : A.handled = none) (hD : s.heap.get? D = some (set1 (!byT w)))
    (h : ∀ h', Heap.ExtBut s.heap.objs.size s.heap h' → Q [.bool true] { s with heap := h' }) : wpAny (model prog w) A (unpackItems (.ref D) 1 none) Q E s := by
  have hT : s.TypeIs (.ref D) "set" := ⟨_, hD, rfl⟩
  have hlt : D ≠ s.heap.objs.size := Nat.ne_of_lt (Heap.lt_size hD)
  unfold unpackItems
  refine wpAny_bind ?_
  unfold notIterableAtAll
  refine wpAny_bind (wpAny_specialOf hT F.slot_set_iter.lookup ?_)
  refine wpAny_pure ?_
  simp only [Bool.false_eq_true, if_false]
  refine wpAny_bind (wpAny_holding (iter_set hD ?_))
  refine wpAny_bind (wpAny_holding ?_)
  show wpAny _ _ (pyNext (.ref s.heap.objs.size) >>= _) _ _ _
  refine wpAny_bind (next_set (D := D) (Heap.get?_push_of_some _ hD) (Heap.get?_push_size _ rfl) fun h₁ sl b₁ g₁ hsl => ?_)
  refine wpAny_bind (wpAny_holding (wpAny_pure (wpAny_pure ?_)))
  rw [if_neg (by simp)]
  have hD₁ : h₁.get? D = some (set1 (!byT w)) := b₁.extBut D _ hlt (Heap.get?_push_of_some _ hD)
  refine wpAny_bind (wpAny_holding (end_set hh hD₁ g₁ hsl fun h₂ e₂ => ?_))
  simp only [Option.isSome_none, Bool.false_eq_true, if_false]
  exact wpAny_pure (h h₂ fun b o hb e => e₂ b o hb (b₁.extBut b o hb (Heap.get?_push_of_some _ e)))
end
end Mine
end

section
open PySem PySem.W PyProof.Rows
open AutoSeq1 (wpAny_loadPart')
set_option maxRecDepth 100000
namespace Mine
/-- the order of two lists of texts -/
def lexLt : List Str → List Str → Bool
  | [], [] => false
  | [], _ :: _ => true
  | _ :: _, [] => false
  | a :: x, b :: y => if a = b then lexLt x y else decide (tl a < tl b)
theorem lex_end {xs ys : List Str} {i : Nat} (h : xs[i]? = none ∨ ys[i]? = none) (hx : i ≤ xs.length) (hy : i ≤ ys.length) : lexLt (xs.drop i) (ys.drop i) = decide (xs.length < ys.length) := by
  by_cases h1 : i < xs.length
  · have h2 : ¬ i < ys.length := by
      intro q
      rcases h with h | h
      · rw [List.getElem?_eq_none_iff] at h; omega
      · rw [List.getElem?_eq_none_iff] at h; omega
    rw [List.drop_eq_getElem_cons h1, List.drop_eq_nil_of_le (by omega : ys.length ≤ i)]
    simp only [lexLt]
    exact (decide_eq_false (by omega)).symm
  · rw [List.drop_eq_nil_of_le (by omega : xs.length ≤ i)]
    by_cases h2 : i < ys.length
    · rw [List.drop_eq_getElem_cons h2]
      simp only [lexLt]
      exact (decide_eq_true (by omega)).symm
    · rw [List.drop_eq_nil_of_le (by omega : ys.length ≤ i)]
      simp only [lexLt]
      exact (decide_eq_false (by omega)).symm
theorem lex_step {xs ys : List Str} {i : Nat} {a b : Str} (h1 : xs[i]? = some a) (h2 : ys[i]? = some b) : lexLt (xs.drop i) (ys.drop i) = if a = b then lexLt (xs.drop (i + 1)) (ys.drop (i + 1)) else decide (tl a < tl b) := by
  obtain ⟨l1, e1⟩ := List.getElem?_eq_some_iff.mp h1
  obtain ⟨l2, e2⟩ := List.getElem?_eq_some_iff.mp h2
  rw [List.drop_eq_getElem_cons l1, List.drop_eq_getElem_cons l2, e1, e2]
  simp only [lexLt]

section
variable {prog : Program} {w : World} {A : Around} {E : Value → Shared → Prop} {s : Shared} {x y : Str} {t u : Tok}
theorem call_gives_lt {Q : Value → Shared → Prop} (h : Q (.bool (tl x < tl y)) s) : wpAny (model prog w) A (call (.builtin "str.__lt__") [.str x t, .str y u]) Q E s :=
  wpAny_call_entry F.slot_str_lt (typeIs_str s x t) F.entry_str_lt (show wpAny _ _ (ret (.bool (x.cps.toList < y.cps.toList))) _ _ s from wpAny_pure ⟨_, rfl, h⟩) (F.args_str_lt_2 _ _)
theorem call_gives_gt {Q : Value → Shared → Prop} (h : Q (.bool (tl y < tl x)) s) : wpAny (model prog w) A (call (.builtin "str.__gt__") [.str x t, .str y u]) Q E s :=
  wpAny_call_entry F.slot_str_gt (typeIs_str s x t) F.entry_str_gt (show wpAny _ _ (ret (.bool (y.cps.toList < x.cps.toList))) _ _ s from wpAny_pure ⟨_, rfl, h⟩) (F.args_str_gt_2 _ _)
end

theorem cmp_loop_Lt (l b : Addr) (us vs : Array Value) (n n2 : Nat) (xs ys : List Str) (hx : StrsAre us.toList xs) (hy : StrsAre vs.toList ys) (k : Nat) :
    ∀ i : Nat, xs.length - i = k → i ≤ xs.length → i ≤ ys.length → Meets (Builtin.«list.__eq__.loop» ⟨[.ref l, .ref b, rawInt i, rawInt 0], []⟩)
      (fun _ R s => s.heap.get? l = some { cls := .type "list", dict := none, data := .seq us n, slots := #[] } ∧ s.heap.get? b = some { cls := .type "list", dict := none, data := .seq vs n2, slots := #[] } ∧
        R (.ok (.ret (.bool (lexLt (xs.drop i) (ys.drop i))))) s) := by
  have hus : us.size = xs.length := size_strs hx
  have hvs : vs.size = ys.length := size_strs hy
  have hfin : ∀ i : Nat, i ≤ xs.length → i ≤ ys.length → (us[i]? = none ∨ vs[i]? = none) → Meets (Builtin.«list.__eq__.loop» ⟨[.ref l, .ref b, rawInt i, rawInt 0], []⟩)
      (fun _ R s => s.heap.get? l = some { cls := .type "list", dict := none, data := .seq us n, slots := #[] } ∧ s.heap.get? b = some { cls := .type "list", dict := none, data := .seq vs n2, slots := #[] } ∧
        R (.ok (.ret (.bool (lexLt (xs.drop i) (ys.drop i))))) s) := by
    intro i hi1 hi2 hn prog w A R s h
    obtain ⟨hp, g, d, tk, os⟩ := s; obtain ⟨hl, hb, h⟩ := h
    have hn' : xs[i]? = none ∨ ys[i]? = none := by
      rcases hn with q | q
      · left; rw [Array.getElem?_eq_none_iff] at q; rw [List.getElem?_eq_none_iff]; omega
      · right; rw [Array.getElem?_eq_none_iff] at q; rw [List.getElem?_eq_none_iff]; omega
    rw [lex_end (hn') (by omega) (by omega)] at h
    wp_walk using wpAny_loadPart' hl, wpAny_loadPart' hb
    have hii : ((i : Nat) : Int).toNat = i := by simp
    rw [hii]
    have fin : ∀ (ou ov : Option Value), (ou = none ∨ ov = none) → us[i]? = ou → vs[i]? = ov → True := fun _ _ _ _ _ => trivial
    clear fin
    cases q1 : us[i]? with
    | none =>
      wp_walk using wpAny_loadPart' hl, wpAny_loadPart' hb
      show R (.ok (.ret (.bool (decide (us.size < vs.size))))) _
      rw [hus, hvs]
      exact h
    | some x1 =>
      cases q2 : vs[i]? with
      | none =>
        wp_walk using wpAny_loadPart' hl, wpAny_loadPart' hb
        show R (.ok (.ret (.bool (decide (us.size < vs.size))))) _
        rw [hus, hvs]
        exact h
      | some x2 => rw [q1, q2] at hn; simp at hn
  induction k with
  | zero =>
    intro i hk hi1 hi2
    exact hfin i hi1 hi2 (.inl (Array.getElem?_eq_none_iff.mpr (by omega)))
  | succ k ih =>
    intro i hk hi1 hi2
    by_cases hlt2 : i < ys.length
    · intro prog w A R s h
      obtain ⟨hp, g, d, tk, os⟩ := s; obtain ⟨hl, hb, h⟩ := h
      have hlt : i < xs.length := by omega
      wp_walk using wpAny_loadPart' hl, wpAny_loadPart' hb
      have hii : ((i : Nat) : Int).toNat = i := by simp
      rw [hii]
      have e1 : us.toList[i]? = us[i]? := by simp
      have e2 : vs.toList[i]? = vs[i]? := by simp
      have l1 : i < us.toList.length := by rw [Array.length_toList]; omega
      have l2 : i < vs.toList.length := by rw [Array.length_toList]; omega
      have q1 : us.toList[i]? = some us.toList[i] := List.getElem?_eq_getElem l1
      have q2 : vs.toList[i]? = some vs.toList[i] := List.getElem?_eq_getElem l2
      obtain ⟨x, tx, ex, gx⟩ := StrsAre.item hx _ _ q1
      obtain ⟨y, ty, ey, gy⟩ := StrsAre.item hy _ _ q2
      rw [ex, e1] at q1
      rw [ey, e2] at q2
      have hc : ((i : Int) + 1) = ((i + 1 : Nat) : Int) := by push_cast; rfl
      rw [lex_step (a := x) (b := y) (by assumption) (by assumption)] at h
      rw [q1, q2]
      refine wpAny_bind (eqBool_str ?_)
      cases hb' : x == y with
      | true =>
        have hxy : x = y := by simpa using hb'
        rw [if_pos (by first | exact hxy | exact hxy.symm)] at h
        wp_walk
        rw [hc]
        exact ⟨plainId_quiet MeetsSeq3.plain_eq_loop _, codeAny_builtin MeetsSeq3.entry_eq_loop (by
          rw [Around.under_plainId MeetsSeq3.plain_eq_loop _]
          exact ih (i + 1) (by omega) (by omega) (by omega) prog w A R _ ⟨hl, hb, h⟩)⟩
      | false =>
        have hxy : x ≠ y := by simpa using hb'
        rw [if_neg (by first | exact hxy | exact hxy.symm)] at h
        wp_walk using wpAny_loadPart' hl, wpAny_loadPart' hb
        rw [q1, q2]
        refine wpAny_bind ?_
        refine wpAny_richCompare_same (op := .Lt) (T := "str") (typeIs_str _ x tx) (typeIs_str _ y ty) F.slot_str_lt (call_gives_lt ?_)
        exact ⟨by simp, by wp_walk; exact h⟩
    · exact hfin i hi1 hi2 (.inr (Array.getElem?_eq_none_iff.mpr (by omega)))
theorem list_lt_strs (l b : Addr) (us vs : Array Value) (n n2 : Nat) (xs ys : List Str) (hx : StrsAre us.toList xs) (hy : StrsAre vs.toList ys) :
    Meets (Builtin.«list.__lt__» ⟨[.ref l, .ref b], []⟩)
      (fun _ R s => s.heap.get? l = some { cls := .type "list", dict := none, data := .seq us n, slots := #[] } ∧ s.heap.get? b = some { cls := .type "list", dict := none, data := .seq vs n2, slots := #[] } ∧
        R (.ok (.ret (.bool (lexLt xs ys)))) s) := by
  intro prog w A R s h
  obtain ⟨hp, g, d, tk, os⟩ := s; obtain ⟨hl, hb, h⟩ := h
  have f3 := AutoSeq1.sub_list_list
  wp_walk using wpAny_loadPart' hl, wpAny_loadPart' hb
  exact ⟨plainId_quiet MeetsSeq3.plain_eq_loop _, codeAny_builtin MeetsSeq3.entry_eq_loop (by
    rw [Around.under_plainId MeetsSeq3.plain_eq_loop _]
    exact cmp_loop_Lt l b us vs n n2 xs ys hx hy _ 0 rfl (Nat.zero_le _) (Nat.zero_le _) prog w A R _ ⟨hl, hb, by simpa using h⟩)⟩
section
variable {prog : Program} {w : World} {A : Around} {E : Value → Shared → Prop} {s : Shared}
theorem rich_lt_strs {l b : Addr} {us vs : Array Value} {n n2 : Nat} {xs ys : List Str} {Q : Value → Shared → Prop} (hl : s.heap.get? l = some (listOf us n)) (hb : s.heap.get? b = some (listOf vs n2)) (hx : StrsAre us.toList xs) (hy : StrsAre vs.toList ys) (hu : A.units < cLine)
    (h : Q (.bool (lexLt xs ys)) s) : wpAny (model prog w) A (richCompare .Lt (.ref l) (.ref b)) Q E s :=
  richCompare_meets_room (op := .Lt) (T := "list") ⟨_, hl, rfl⟩ ⟨_, hb, rfl⟩ F.slot_list_lt F.entry_list_lt (F.args_list_lt_2 _ _) (list_lt_strs l b us vs n n2 xs ys hx hy) ⟨hl, hb, by simp, h⟩ hu
end

theorem cmp_loop_Gt (l b : Addr) (us vs : Array Value) (n n2 : Nat) (xs ys : List Str) (hx : StrsAre us.toList xs) (hy : StrsAre vs.toList ys) (k : Nat) :
    ∀ i : Nat, xs.length - i = k → i ≤ xs.length → i ≤ ys.length → Meets (Builtin.«list.__eq__.loop» ⟨[.ref l, .ref b, rawInt i, rawInt 4], []⟩)
      (fun _ R s => s.heap.get? l = some { cls := .type "list", dict := none, data := .seq us n, slots := #[] } ∧ s.heap.get? b = some { cls := .type "list", dict := none, data := .seq vs n2, slots := #[] } ∧
        R (.ok (.ret (.bool (lexLt (ys.drop i) (xs.drop i))))) s) := by
  have hus : us.size = xs.length := size_strs hx
  have hvs : vs.size = ys.length := size_strs hy
  have hfin : ∀ i : Nat, i ≤ xs.length → i ≤ ys.length → (us[i]? = none ∨ vs[i]? = none) → Meets (Builtin.«list.__eq__.loop» ⟨[.ref l, .ref b, rawInt i, rawInt 4], []⟩)
      (fun _ R s => s.heap.get? l = some { cls := .type "list", dict := none, data := .seq us n, slots := #[] } ∧ s.heap.get? b = some { cls := .type "list", dict := none, data := .seq vs n2, slots := #[] } ∧
        R (.ok (.ret (.bool (lexLt (ys.drop i) (xs.drop i))))) s) := by
    intro i hi1 hi2 hn prog w A R s h
    obtain ⟨hp, g, d, tk, os⟩ := s; obtain ⟨hl, hb, h⟩ := h
    have hn' : xs[i]? = none ∨ ys[i]? = none := by
      rcases hn with q | q
      · left; rw [Array.getElem?_eq_none_iff] at q; rw [List.getElem?_eq_none_iff]; omega
      · right; rw [Array.getElem?_eq_none_iff] at q; rw [List.getElem?_eq_none_iff]; omega
    rw [lex_end (hn'.symm) (by omega) (by omega)] at h
    wp_walk using wpAny_loadPart' hl, wpAny_loadPart' hb
    have hii : ((i : Nat) : Int).toNat = i := by simp
    rw [hii]
    have fin : ∀ (ou ov : Option Value), (ou = none ∨ ov = none) → us[i]? = ou → vs[i]? = ov → True := fun _ _ _ _ _ => trivial
    clear fin
    cases q1 : us[i]? with
    | none =>
      wp_walk using wpAny_loadPart' hl, wpAny_loadPart' hb
      show R (.ok (.ret (.bool (decide (vs.size < us.size))))) _
      rw [hvs, hus]
      exact h
    | some x1 =>
      cases q2 : vs[i]? with
      | none =>
        wp_walk using wpAny_loadPart' hl, wpAny_loadPart' hb
        show R (.ok (.ret (.bool (decide (vs.size < us.size))))) _
        rw [hvs, hus]
        exact h
      | some x2 => rw [q1, q2] at hn; simp at hn
  induction k with
  | zero =>
    intro i hk hi1 hi2
    exact hfin i hi1 hi2 (.inl (Array.getElem?_eq_none_iff.mpr (by omega)))
  | succ k ih =>
    intro i hk hi1 hi2
    by_cases hlt2 : i < ys.length
    · intro prog w A R s h
      obtain ⟨hp, g, d, tk, os⟩ := s; obtain ⟨hl, hb, h⟩ := h
      have hlt : i < xs.length := by omega
      wp_walk using wpAny_loadPart' hl, wpAny_loadPart' hb
      have hii : ((i : Nat) : Int).toNat = i := by simp
      rw [hii]
      have e1 : us.toList[i]? = us[i]? := by simp
      have e2 : vs.toList[i]? = vs[i]? := by simp
      have l1 : i < us.toList.length := by rw [Array.length_toList]; omega
      have l2 : i < vs.toList.length := by rw [Array.length_toList]; omega
      have q1 : us.toList[i]? = some us.toList[i] := List.getElem?_eq_getElem l1
      have q2 : vs.toList[i]? = some vs.toList[i] := List.getElem?_eq_getElem l2
      obtain ⟨x, tx, ex, gx⟩ := StrsAre.item hx _ _ q1
      obtain ⟨y, ty, ey, gy⟩ := StrsAre.item hy _ _ q2
      rw [ex, e1] at q1
      rw [ey, e2] at q2
      have hc : ((i : Int) + 1) = ((i + 1 : Nat) : Int) := by push_cast; rfl
      rw [lex_step (a := y) (b := x) (by assumption) (by assumption)] at h
      rw [q1, q2]
      refine wpAny_bind (eqBool_str ?_)
      cases hb' : x == y with
      | true =>
        have hxy : x = y := by simpa using hb'
        rw [if_pos (by first | exact hxy | exact hxy.symm)] at h
        wp_walk
        rw [hc]
        exact ⟨plainId_quiet MeetsSeq3.plain_eq_loop _, codeAny_builtin MeetsSeq3.entry_eq_loop (by
          rw [Around.under_plainId MeetsSeq3.plain_eq_loop _]
          exact ih (i + 1) (by omega) (by omega) (by omega) prog w A R _ ⟨hl, hb, h⟩)⟩
      | false =>
        have hxy : x ≠ y := by simpa using hb'
        rw [if_neg (by first | exact hxy | exact hxy.symm)] at h
        wp_walk using wpAny_loadPart' hl, wpAny_loadPart' hb
        rw [q1, q2]
        refine wpAny_bind ?_
        refine wpAny_richCompare_same (op := .Gt) (T := "str") (typeIs_str _ x tx) (typeIs_str _ y ty) F.slot_str_gt (call_gives_gt ?_)
        exact ⟨by simp, by wp_walk; exact h⟩
    · exact hfin i hi1 hi2 (.inr (Array.getElem?_eq_none_iff.mpr (by omega)))
theorem list_gt_strs (l b : Addr) (us vs : Array Value) (n n2 : Nat) (xs ys : List Str) (hx : StrsAre us.toList xs) (hy : StrsAre vs.toList ys) :
    Meets (Builtin.«list.__gt__» ⟨[.ref l, .ref b], []⟩)
      (fun _ R s => s.heap.get? l = some { cls := .type "list", dict := none, data := .seq us n, slots := #[] } ∧ s.heap.get? b = some { cls := .type "list", dict := none, data := .seq vs n2, slots := #[] } ∧
        R (.ok (.ret (.bool (lexLt ys xs)))) s) := by
  intro prog w A R s h
  obtain ⟨hp, g, d, tk, os⟩ := s; obtain ⟨hl, hb, h⟩ := h
  have f3 := AutoSeq1.sub_list_list
  wp_walk using wpAny_loadPart' hl, wpAny_loadPart' hb
  exact ⟨plainId_quiet MeetsSeq3.plain_eq_loop _, codeAny_builtin MeetsSeq3.entry_eq_loop (by
    rw [Around.under_plainId MeetsSeq3.plain_eq_loop _]
    exact cmp_loop_Gt l b us vs n n2 xs ys hx hy _ 0 rfl (Nat.zero_le _) (Nat.zero_le _) prog w A R _ ⟨hl, hb, by simpa using h⟩)⟩
section
variable {prog : Program} {w : World} {A : Around} {E : Value → Shared → Prop} {s : Shared}
theorem rich_gt_strs {l b : Addr} {us vs : Array Value} {n n2 : Nat} {xs ys : List Str} {Q : Value → Shared → Prop} (hl : s.heap.get? l = some (listOf us n)) (hb : s.heap.get? b = some (listOf vs n2)) (hx : StrsAre us.toList xs) (hy : StrsAre vs.toList ys) (hu : A.units < cLine)
    (h : Q (.bool (lexLt ys xs)) s) : wpAny (model prog w) A (richCompare .Gt (.ref l) (.ref b)) Q E s :=
  richCompare_meets_room (op := .Gt) (T := "list") ⟨_, hl, rfl⟩ ⟨_, hb, rfl⟩ F.slot_list_gt F.entry_list_gt (F.args_list_gt_2 _ _) (list_gt_strs l b us vs n n2 xs ys hx hy) ⟨hl, hb, by simp, h⟩ hu
end
end Mine
end

section
open PySem PySem.W PyProof.Rows
set_option maxRecDepth 100000
namespace Mine
section
variable {prog : Program} {w : World} {A : Around} {E : Value → Shared → Prop} {s : Shared}

theorem call_min_lists {l a b : Addr} {us vs : Array Value} {n n2 : Nat} {xs ys : List Str} {Q : Value → Shared → Prop} (hh : A.handled = none) (hu : A.in1.units < cLine)
    (hl : s.heap.IsList l #[.ref a, .ref b]) (ha : s.heap.get? a = some (listOf us n)) (hb : s.heap.get? b = some (listOf vs n2)) (hx : StrsAre us.toList xs) (hy : StrsAre vs.toList ys)
    (h : ∀ h' tk, s.heap.StaysIn h' → Q (.ref (if lexLt ys xs then b else a)) { s with heap := h', toks := tk }) :
    wpAny (model prog w) A (call (.builtin "min") [.ref l]) Q E s := by
  have hname : (toString "min" ++ toString ".loop" : String) = "min.loop" := by decide
  have hlt : ∀ {b o}, s.heap.get? b = some o → b < s.heap.objs.size := fun e => Heap.lt_size e
  have hll : l < s.heap.objs.size := by obtain ⟨o, e, _⟩ := hl; exact hlt e
  have W := Walks.list (prog := prog) (w := w) (A := A.in1) hh s.heap.objs.size l (Nat.ne_of_lt hll) #[.ref a, .ref b]
  refine call_function_tree F.kind_min F.plain_min F.entry_min (F.args_min1 _) ?_
  show wpAny _ A.in1 (Builtin.Builtins.bindParams "min" ["key", "default"] 0 ⟨[], []⟩ >>= _) _ _ s
  refine wpAny_bind (wpAny_of_eq (show Builtin.Builtins.bindParams "min" ["key", "default"] 0 ⟨[], []⟩ = pure [none, none] from rfl) ?_)
  refine wpAny_bind (wpAny_pure ?_)
  refine wpAny_bind (wpAny_pyIter_list hl ?_)
  refine wpAny_bind (wpAny_newObj_type ?_)
  rw [hname]
  refine wpAny_pure ⟨plainId_quiet F.plain_min_loop _, ?_⟩
  dsimp only
  generalize hH : s.heap.push { cls := .type "list_iterator", data := .fields #[.ref l, .int 0 0] } = H
  have hHs : H.objs.size = s.heap.objs.size + 1 := by rw [← hH, Heap.size_push]
  have k0 : ∀ b o, s.heap.get? b = some o → H.get? b = some o := fun b o e => hH ▸ Heap.get?_push_of_some _ e
  have st0 : H.IsListIter s.heap.objs.size l 0 ∧ H.IsList l #[.ref a, .ref b] := ⟨hH ▸ ⟨_, Heap.get?_push_size _ rfl, rfl, rfl⟩, hl.at fun o e => k0 l o e⟩
  generalize hG : H.push { cls := .type "list", data := .seq ([] : List Value).toArray } = G
  have k1 : ∀ b o, H.get? b = some o → G.get? b = some o := fun b o e => hG ▸ Heap.get?_push_of_some _ e
  have hS : G.get? H.objs.size = some { cls := .type "list", data := .seq ([] : List Value).toArray } := hG ▸ Heap.get?_push_size _ rfl
  have st1 := W.frame _ H G st0 fun b _ o e => k1 b o e
  have hSI : H.objs.size ≠ s.heap.objs.size := by rw [hHs]; exact Nat.succ_ne_self _
  have hSl : H.objs.size ≠ l := by rw [hHs]; exact Nat.ne_of_gt (Nat.lt_succ_of_lt hll)
  have hSf : H.objs.size ∉ [s.heap.objs.size, l] := by simp [hSI, hSl]
  have hSw : H.objs.size ∉ [s.heap.objs.size] := by simp [hSI]
  have olds : ∀ b o, s.heap.get? b = some o → b ∉ [s.heap.objs.size] ∧ H.objs.size ≠ b := fun b o e => ⟨by simpa using Nat.ne_of_lt (hlt e), by rw [hHs]; exact Nat.ne_of_gt (Nat.lt_succ_of_lt (hlt e))⟩
  have keep1 : ∀ b o, s.heap.get? b = some o → G.get? b = some o := fun b o e => k1 b o (k0 b o e)
  clear hH hG
  -- the first turn
  refine codeAny_builtin F.entry_min_loop ?_
  rw [Around.under_plainId F.plain_min_loop _]
  show wpAny _ A.in1 (seqItems? (.ref H.objs.size) >>= _) _ _ _
  refine wpAny_bind (wpAny_seqItems hS rfl ?_)
  show wpAny _ A.in1 (tryCatch (pyNext (.ref s.heap.objs.size)) _ >>= _) _ _ _
  refine wpAny_bind (wpAny_tryCatch (W.item 0 { s with heap := G } _ _ (by simp) st1 fun v h₁ tk₁ hP st₂ hk₁ => ?_))
  have hv : v = .ref a := by simpa using hP.symm
  subst hv
  have hS₁ := hk₁ _ _ hSw hS
  show wpAny _ A.in1 (updateSeq H.objs.size (fun _ => #[.ref a, .ref a]) >>= _) _ _ _
  refine wpAny_bind ?_
  refine wpAny_updateSeq hS₁ rfl ?_
  rw [hname]
  have hS₂ := Heap.get?_update_self (Obj.mapSeq (fun _ => #[.ref a, .ref a])) hS₁ rfl
  have st₃ := W.frame _ h₁ (h₁.update H.objs.size (Obj.mapSeq (fun _ => #[.ref a, .ref a]))) st₂ fun b hb o e => (Heap.get?_update_other _ _ (fun q : H.objs.size = b => hSf (by rw [q]; exact hb))).trans e
  have keep2 : ∀ b o, s.heap.get? b = some o → (h₁.update H.objs.size (Obj.mapSeq (fun _ => #[.ref a, .ref a]))).get? b = some o := fun b o e => (Heap.get?_update_other _ _ (olds b o e).2).trans (hk₁ b o (olds b o e).1 (keep1 b o e))
  generalize h₁.update H.objs.size (Obj.mapSeq (fun _ => #[.ref a, .ref a])) = h₂ at hS₂ st₃ keep2 ⊢
  refine wpAny_pure ⟨plainId_quiet F.plain_min_loop _, ?_⟩
  clear hS₁ hk₁ st₂ st1 hS
  -- the second
  refine codeAny_builtin F.entry_min_loop ?_
  rw [Around.under_plainId F.plain_min_loop _]
  show wpAny _ A.in1 (seqItems? (.ref H.objs.size) >>= _) _ _ _
  refine wpAny_bind (wpAny_seqItems hS₂ rfl ?_)
  show wpAny _ A.in1 (tryCatch (pyNext (.ref s.heap.objs.size)) _ >>= _) _ _ _
  refine wpAny_bind (wpAny_tryCatch (W.item 1 { s with heap := h₂, toks := tk₁ } _ _ (by simp) st₃ fun v h₃ tk₃ hP₃ st₄ hk₃ => ?_))
  have hv : v = .ref b := by simpa using hP₃.symm
  subst hv
  have hS₃ := hk₃ _ _ hSw hS₂
  have keep3 : ∀ b o, s.heap.get? b = some o → h₃.get? b = some o := fun b o e => hk₃ b o (olds b o e).1 (keep2 b o e)
  show wpAny _ A.in1 (tryCatch (holding [.ref b, .ref b] (richCompare .Lt (.ref b) (.ref a) >>= _)) _ >>= _) _ _ _
  refine wpAny_bind (wpAny_tryCatch (wpAny_holding (wpAny_bind (rich_lt_strs (keep3 _ _ hb) (keep3 _ _ ha) hy hx hu ?_))))
  refine wpAny_bind (wpAny_holding (wpAny_truthy_bool ?_))
  refine wpAny_bind (wpAny_letGo (wpAny_pure ?_))
  have last : ∀ (x : Addr) h₄ tk₄ c, h₄.get? H.objs.size = some { cls := .type "list", data := .seq #[.ref x, .ref x] c } → (h₄.IsListIter s.heap.objs.size l 2 ∧ h₄.IsList l #[.ref a, .ref b]) → (∀ b o, s.heap.get? b = some o → h₄.get? b = some o) →
      (∀ h' tk, s.heap.StaysIn h' → Q (.ref x) { s with heap := h', toks := tk }) →
      codeAny (model prog w) A (.builtin "min.loop" ⟨[.ref s.heap.objs.size, .none, .ref H.objs.size], []⟩) (wants Q E) { s with heap := h₄, toks := tk₄ } := by
    intro x h₄ tk₄ c hS₄ st₅ keep4 hq
    refine codeAny_builtin F.entry_min_loop ?_
    rw [Around.under_plainId F.plain_min_loop _]
    show wpAny _ A.in1 (seqItems? (.ref H.objs.size) >>= _) _ _ _
    refine wpAny_bind (wpAny_seqItems hS₄ rfl ?_)
    show wpAny _ A.in1 (tryCatch (pyNext (.ref s.heap.objs.size)) _ >>= _) _ _ _
    refine wpAny_bind (wpAny_tryCatch (W.done { s with heap := h₄, toks := tk₄ } _ _ st₅ fun h' tk hk' => ?_))
    have hS₅ := hk' _ _ hSw hS₄
    show wpAny _ A.in1 (updateSeq H.objs.size (fun _ => #[]) >>= _) _ _ _
    refine wpAny_bind ?_
    refine wpAny_updateSeq hS₅ rfl (wpAny_bind (wpAny_letGo (wpAny_pure ?_)))
    exact hq _ tk fun b o e => (Heap.get?_update_other _ _ (olds b o e).2).trans (hk' b o (olds b o e).1 (keep4 b o e))
  cases hc : lexLt ys xs with
  | true =>
    rw [hc] at h
    simp only [if_true] at h ⊢
    refine wpAny_bind ?_
    refine wpAny_updateSeq hS₃ rfl (wpAny_bind (wpAny_letGo ?_))
    rw [hname]
    refine wpAny_pure ⟨plainId_quiet F.plain_min_loop _, last b _ _ _ (Heap.get?_update_self _ hS₃ rfl) (W.frame _ h₃ _ st₄ fun b hb o e => (Heap.get?_update_other _ _ (fun q : H.objs.size = b => hSf (by rw [q]; exact hb))).trans e)
      (fun b o e => (Heap.get?_update_other _ _ (olds b o e).2).trans (keep3 b o e)) h⟩
  | false =>
    rw [hc] at h
    simp only [Bool.false_eq_true, if_false] at h ⊢
    refine wpAny_bind (wpAny_letGo ?_)
    rw [hname]
    exact wpAny_pure ⟨plainId_quiet F.plain_min_loop _, last a h₃ tk₃ _ hS₃ st₄ keep3 h⟩

theorem call_max_lists {l a b : Addr} {us vs : Array Value} {n n2 : Nat} {xs ys : List Str} {Q : Value → Shared → Prop} (hh : A.handled = none) (hu : A.in1.units < cLine)
    (hl : s.heap.IsList l #[.ref a, .ref b]) (ha : s.heap.get? a = some (listOf us n)) (hb : s.heap.get? b = some (listOf vs n2)) (hx : StrsAre us.toList xs) (hy : StrsAre vs.toList ys)
    (h : ∀ h' tk, s.heap.StaysIn h' → Q (.ref (if lexLt xs ys then b else a)) { s with heap := h', toks := tk }) :
    wpAny (model prog w) A (call (.builtin "max") [.ref l]) Q E s := by
  have hname : (toString "max" ++ toString ".loop" : String) = "max.loop" := by decide
  have hlt : ∀ {b o}, s.heap.get? b = some o → b < s.heap.objs.size := fun e => Heap.lt_size e
  have hll : l < s.heap.objs.size := by obtain ⟨o, e, _⟩ := hl; exact hlt e
  have W := Walks.list (prog := prog) (w := w) (A := A.in1) hh s.heap.objs.size l (Nat.ne_of_lt hll) #[.ref a, .ref b]
  refine call_function_tree F.kind_max F.plain_max F.entry_max (F.args_max1 _) ?_
  show wpAny _ A.in1 (Builtin.Builtins.bindParams "max" ["key", "default"] 0 ⟨[], []⟩ >>= _) _ _ s
  refine wpAny_bind (wpAny_of_eq (show Builtin.Builtins.bindParams "max" ["key", "default"] 0 ⟨[], []⟩ = pure [none, none] from rfl) ?_)
  refine wpAny_bind (wpAny_pure ?_)
  refine wpAny_bind (wpAny_pyIter_list hl ?_)
  refine wpAny_bind (wpAny_newObj_type ?_)
  rw [hname]
  refine wpAny_pure ⟨plainId_quiet F.plain_max_loop _, ?_⟩
  dsimp only
  generalize hH : s.heap.push { cls := .type "list_iterator", data := .fields #[.ref l, .int 0 0] } = H
  have hHs : H.objs.size = s.heap.objs.size + 1 := by rw [← hH, Heap.size_push]
  have k0 : ∀ b o, s.heap.get? b = some o → H.get? b = some o := fun b o e => hH ▸ Heap.get?_push_of_some _ e
  have st0 : H.IsListIter s.heap.objs.size l 0 ∧ H.IsList l #[.ref a, .ref b] := ⟨hH ▸ ⟨_, Heap.get?_push_size _ rfl, rfl, rfl⟩, hl.at fun o e => k0 l o e⟩
  generalize hG : H.push { cls := .type "list", data := .seq ([] : List Value).toArray } = G
  have k1 : ∀ b o, H.get? b = some o → G.get? b = some o := fun b o e => hG ▸ Heap.get?_push_of_some _ e
  have hS : G.get? H.objs.size = some { cls := .type "list", data := .seq ([] : List Value).toArray } := hG ▸ Heap.get?_push_size _ rfl
  have st1 := W.frame _ H G st0 fun b _ o e => k1 b o e
  have hSI : H.objs.size ≠ s.heap.objs.size := by rw [hHs]; exact Nat.succ_ne_self _
  have hSl : H.objs.size ≠ l := by rw [hHs]; exact Nat.ne_of_gt (Nat.lt_succ_of_lt hll)
  have hSf : H.objs.size ∉ [s.heap.objs.size, l] := by simp [hSI, hSl]
  have hSw : H.objs.size ∉ [s.heap.objs.size] := by simp [hSI]
  have olds : ∀ b o, s.heap.get? b = some o → b ∉ [s.heap.objs.size] ∧ H.objs.size ≠ b := fun b o e => ⟨by simpa using Nat.ne_of_lt (hlt e), by rw [hHs]; exact Nat.ne_of_gt (Nat.lt_succ_of_lt (hlt e))⟩
  have keep1 : ∀ b o, s.heap.get? b = some o → G.get? b = some o := fun b o e => k1 b o (k0 b o e)
  clear hH hG
  -- the first turn
  refine codeAny_builtin F.entry_max_loop ?_
  rw [Around.under_plainId F.plain_max_loop _]
  show wpAny _ A.in1 (seqItems? (.ref H.objs.size) >>= _) _ _ _
  refine wpAny_bind (wpAny_seqItems hS rfl ?_)
  show wpAny _ A.in1 (tryCatch (pyNext (.ref s.heap.objs.size)) _ >>= _) _ _ _
  refine wpAny_bind (wpAny_tryCatch (W.item 0 { s with heap := G } _ _ (by simp) st1 fun v h₁ tk₁ hP st₂ hk₁ => ?_))
  have hv : v = .ref a := by simpa using hP.symm
  subst hv
  have hS₁ := hk₁ _ _ hSw hS
  show wpAny _ A.in1 (updateSeq H.objs.size (fun _ => #[.ref a, .ref a]) >>= _) _ _ _
  refine wpAny_bind ?_
  refine wpAny_updateSeq hS₁ rfl ?_
  rw [hname]
  have hS₂ := Heap.get?_update_self (Obj.mapSeq (fun _ => #[.ref a, .ref a])) hS₁ rfl
  have st₃ := W.frame _ h₁ (h₁.update H.objs.size (Obj.mapSeq (fun _ => #[.ref a, .ref a]))) st₂ fun b hb o e => (Heap.get?_update_other _ _ (fun q : H.objs.size = b => hSf (by rw [q]; exact hb))).trans e
  have keep2 : ∀ b o, s.heap.get? b = some o → (h₁.update H.objs.size (Obj.mapSeq (fun _ => #[.ref a, .ref a]))).get? b = some o := fun b o e => (Heap.get?_update_other _ _ (olds b o e).2).trans (hk₁ b o (olds b o e).1 (keep1 b o e))
  generalize h₁.update H.objs.size (Obj.mapSeq (fun _ => #[.ref a, .ref a])) = h₂ at hS₂ st₃ keep2 ⊢
  refine wpAny_pure ⟨plainId_quiet F.plain_max_loop _, ?_⟩
  clear hS₁ hk₁ st₂ st1 hS
  -- the second
  refine codeAny_builtin F.entry_max_loop ?_
  rw [Around.under_plainId F.plain_max_loop _]
  show wpAny _ A.in1 (seqItems? (.ref H.objs.size) >>= _) _ _ _
  refine wpAny_bind (wpAny_seqItems hS₂ rfl ?_)
  show wpAny _ A.in1 (tryCatch (pyNext (.ref s.heap.objs.size)) _ >>= _) _ _ _
  refine wpAny_bind (wpAny_tryCatch (W.item 1 { s with heap := h₂, toks := tk₁ } _ _ (by simp) st₃ fun v h₃ tk₃ hP₃ st₄ hk₃ => ?_))
  have hv : v = .ref b := by simpa using hP₃.symm
  subst hv
  have hS₃ := hk₃ _ _ hSw hS₂
  have keep3 : ∀ b o, s.heap.get? b = some o → h₃.get? b = some o := fun b o e => hk₃ b o (olds b o e).1 (keep2 b o e)
  show wpAny _ A.in1 (tryCatch (holding [.ref b, .ref b] (richCompare .Gt (.ref b) (.ref a) >>= _)) _ >>= _) _ _ _
  refine wpAny_bind (wpAny_tryCatch (wpAny_holding (wpAny_bind (rich_gt_strs (keep3 _ _ hb) (keep3 _ _ ha) hy hx hu ?_))))
  refine wpAny_bind (wpAny_holding (wpAny_truthy_bool ?_))
  refine wpAny_bind (wpAny_letGo (wpAny_pure ?_))
  have last : ∀ (x : Addr) h₄ tk₄ c, h₄.get? H.objs.size = some { cls := .type "list", data := .seq #[.ref x, .ref x] c } → (h₄.IsListIter s.heap.objs.size l 2 ∧ h₄.IsList l #[.ref a, .ref b]) → (∀ b o, s.heap.get? b = some o → h₄.get? b = some o) →
      (∀ h' tk, s.heap.StaysIn h' → Q (.ref x) { s with heap := h', toks := tk }) →
      codeAny (model prog w) A (.builtin "max.loop" ⟨[.ref s.heap.objs.size, .none, .ref H.objs.size], []⟩) (wants Q E) { s with heap := h₄, toks := tk₄ } := by
    intro x h₄ tk₄ c hS₄ st₅ keep4 hq
    refine codeAny_builtin F.entry_max_loop ?_
    rw [Around.under_plainId F.plain_max_loop _]
    show wpAny _ A.in1 (seqItems? (.ref H.objs.size) >>= _) _ _ _
    refine wpAny_bind (wpAny_seqItems hS₄ rfl ?_)
    show wpAny _ A.in1 (tryCatch (pyNext (.ref s.heap.objs.size)) _ >>= _) _ _ _
    refine wpAny_bind (wpAny_tryCatch (W.done { s with heap := h₄, toks := tk₄ } _ _ st₅ fun h' tk hk' => ?_))
    have hS₅ := hk' _ _ hSw hS₄
    show wpAny _ A.in1 (updateSeq H.objs.size (fun _ => #[]) >>= _) _ _ _
    refine wpAny_bind ?_
    refine wpAny_updateSeq hS₅ rfl (wpAny_bind (wpAny_letGo (wpAny_pure ?_)))
    exact hq _ tk fun b o e => (Heap.get?_update_other _ _ (olds b o e).2).trans (hk' b o (olds b o e).1 (keep4 b o e))
  cases hc : lexLt xs ys with
  | true =>
    rw [hc] at h
    simp only [if_true] at h ⊢
    refine wpAny_bind ?_
    refine wpAny_updateSeq hS₃ rfl (wpAny_bind (wpAny_letGo ?_))
    rw [hname]
    refine wpAny_pure ⟨plainId_quiet F.plain_max_loop _, last b _ _ _ (Heap.get?_update_self _ hS₃ rfl) (W.frame _ h₃ _ st₄ fun b hb o e => (Heap.get?_update_other _ _ (fun q : H.objs.size = b => hSf (by rw [q]; exact hb))).trans e)
      (fun b o e => (Heap.get?_update_other _ _ (olds b o e).2).trans (keep3 b o e)) h⟩
  | false =>
    rw [hc] at h
    simp only [Bool.false_eq_true, if_false] at h ⊢
    refine wpAny_bind (wpAny_letGo ?_)
    rw [hname]
    exact wpAny_pure ⟨plainId_quiet F.plain_max_loop _, last a h₃ tk₃ _ hS₃ st₄ keep3 h⟩
end
end Mine
end

section
open PySem PySem.W PyProof.Rows PySem.Spec PySem.Calls
set_option maxRecDepth 100000
namespace Mine
open LCg
theorem turn_set (elt target iter : Expr) (scope : Scope) (pos : Pos) (it acc : Value) (env : Env) :
    compTurn (.SetComp elt [⟨target, iter, [], 0⟩] scope pos) 0 it acc env = (do
      standAt iter.pos
      match ← pyNext it with
      | none => pure (.done .next)
      | some v =>
        letOwnedTupleGo target it v
        assign target env v
        let mut ok := true
        for c in ([] : List Expr) do
          if ok then ok ← isTrue c env (eval c env)
        if ok then
          (do let v ← eval elt env; standAt elt.pos; let _ ← call (.builtin "set.add") [acc, v])
        again (.compLoop (.SetComp elt [⟨target, iter, [], 0⟩] scope pos) 0 it acc env)) := by rfl
section
variable {prog : Program} {w : World} {A : Around} {E : Value → Shared → Prop} {R : Result → Shared → Prop} {s : Shared} {h₀ : Heap} {L : Addr} {m : Str → Option Value} {env : Env}
theorem loop_set {elt target iter : Expr} {scope : Scope} {pos : Pos} {it acc : Value} {env : Env} (I : Nat → Shared → Prop)
    (turn : ∀ n s, I n s → wpAny (model prog w) A (pyNext it) (fun r s₁ => match r with
      | none => R (.ok .next) s₁
      | some v => wpAny (model prog w) A (assign target env v) (fun _ s₂ => wpAny (model prog w) A (eval elt env) (fun x s₄ =>
              wpAny (model prog w) A (call (.builtin "set.add") [acc, x]) (fun _ s₅ => ∃ m, m < n ∧ I m s₅) (notedBy (model prog w) A env fun e s' => R (.error e) s') s₄) (notedBy (model prog w) A env fun e s' => R (.error e) s') s₂)
            (notedBy (model prog w) A env fun e s' => R (.error e) s') s₁) (notedBy (model prog w) A env fun e s' => R (.error e) s') s)
    (n : Nat) (h : I n s) (ht : ∀ v, letOwnedTupleGo target it v = pure ()) :
    codeAny (model prog w) A (.compLoop (.SetComp elt [⟨target, iter, [], 0⟩] scope pos) 0 it acc env) R s := by
  refine codeAny_loop rfl I (fun n s hI => ?_) n h
  show wpAny _ A ((compTurn (.SetComp elt [⟨target, iter, [], 0⟩] scope pos) 0 it acc env).onRaise (fun x => do noteFrame x env; theTreesLotGoes x)) _ _ s
  refine wpAny_noted ?_
  rw [turn_set]
  refine wpAny_bind (wpAny_standAt (wpAny_bind (wpAny_mono (turn n s hI) (fun r s₁ h₁ => ?_) fun _ _ h' => h')))
  cases r with
  | none => exact wpAny_pure h₁
  | some v =>
    refine wpAny_bind (wpAny_of_eq (ht v) ?_)
    refine wpAny_bind (wpAny_mono h₁ (fun _ s₂ h₂ => wpAny_bind (wpAny_tests_nil ?_)) fun _ _ h' => h')
    refine wpAny_bind (wpAny_bind (wpAny_mono h₂ (fun x s₄ h₄ => ?_) fun _ _ h' => h'))
    exact wpAny_bind (wpAny_standAt (wpAny_bind (wpAny_mono h₄ (fun _ s₅ h₅ => wpAny_pure (wpAny_pure ⟨rfl, h₅⟩)) fun _ _ h' => h')))
theorem start_set {elt target iter ifs rest scope pos it acc env}
    (h0 : codeAny (model prog w) A (.compLoop (.SetComp elt (⟨target, iter, ifs, 0⟩ :: rest) scope pos) 0 it acc env) R s)
    (h : wpAny (model prog w) A (pyIter it) (fun it' s' => codeAny (model prog w) A (.compLoop (.SetComp elt (⟨target, iter, ifs, 0⟩ :: rest) scope pos) 0 it' acc env) R s')
      (notedBy (model prog w) A env fun x s' => R (.error x) s') s) :
    codeAny (model prog w) A (.compStart (.SetComp elt (⟨target, iter, ifs, 0⟩ :: rest) scope pos) 0 it acc env) R s := by
  refine codeAny_of_tree ?_
  show wpAny _ _ ((compStart (.SetComp elt (⟨target, iter, ifs, 0⟩ :: rest) scope pos) 0 it acc env).onRaise (fun x => do noteFrame x env; standAt theWindowsPlace)) _ _ s
  refine wpAny_notedAt ?_
  unfold compStart
  show wpAny _ _ (ask >>= _) _ _ s
  refine wpAny_bind (wpAny_askSetting (wpAny_ite ?_))
  split
  · exact wpAny_pure (And.intro rfl h0)
  · refine wpAny_bind (wpAny_rule ?_)
    show wpAny _ _ (standAt iter.pos >>= _) _ _ s
    exact wpAny_bind (wpAny_standAt (wpAny_bind (wpAny_mono h (fun it' s' h' => wpAny_pure (And.intro rfl h')) fun _ _ x => x)))
def setOf (i : Nat) (led : Bool) : Obj := if i = 0 then set0 led else set1 led
def SetEnd (h₀ : Heap) (L : Addr) (m : Str → Option Value) (s : Shared) (all : List (Addr × Obj)) (y : Value) (s' : Shared) : Prop :=
  y = .bool true ∧ ∃ h' tk', s' = { s with heap := h', toks := tk' } ∧ Fr h₀ L h' m ∧ News h₀ L h' all
def SetSrc (prog : Program) (w : World) (A : Around) (h₀ : Heap) (L : Addr) (m : Str → Option Value) (env : Env) (elt : Expr) (x : Str) (scope : Scope) (cl : List (Str × Addr)) (Q : Value → Shared → Prop) (xv : Value) (s₁ : Shared) : Prop :=
  ∃ ax its k news, xv = .ref ax ∧ A.handled = none ∧ Fr h₀ L s₁.heap m ∧ News h₀ L s₁.heap news ∧ (ax, ({ cls := .type "tuple", data := .seq its k } : Obj)) ∈ news ∧ 0 < its.size ∧ its.size ≤ 100 ∧
    (∀ v I oI C oC D oD m₂ h tk (E' : Value → Shared → Prop), v ∈ its.toList → NsObj oC m₂ → m₂ x = some v → Fr h₀ L h m → News h₀ L h ((I, oI) :: (C, oC) :: (D, oD) :: news) → Off3 I C D news → ((@Ne Nat I C) ∧ (@Ne Nat I D) ∧ (@Ne Nat C D)) →
      wpAny (model prog w) A (eval elt (compEnvC scope cl C env)) (SetEnd h₀ L m { s₁ with heap := h, toks := tk } ((I, oI) :: (C, oC) :: (D, oD) :: news)) E' { s₁ with heap := h, toks := tk }) ∧
    (∀ D h tk, Fr h₀ L h m → News h₀ L h ((D, set1 (!byT w)) :: news) → (∀ p ∈ news, p.1 ≠ D) → Q (.ref D) { s₁ with heap := h, toks := tk })
theorem block_set {elt iter : Expr} {x : Str} {px : Pos} {scope : Scope} {cl : List (Str × Addr)} {pos : Pos} {s₂ : Shared} {I : Addr} {fp : List Addr} {n : Nat} {P : Nat → Value → Prop} {St : Nat → Heap → Prop} {news : List (Addr × Obj)}
    {RR : Value → Addr → Result → Shared → Prop}
    (W : Walks prog w A I fp [I] n P St) (hn0 : 0 < n) (hIo : ∀ i h, St i h → ∃ o, h.get? I = some o)
    (hSt : ∀ i h h' o, St i h → h.get? I = some o → h'.get? I = some o → News h₀ L h' news → St i h')
    (hcell : ∀ y ∈ scope.names, y.2 ≠ .cell) (hkind : scope.kind = .function) (hx : scope.names.lookup x = some .local) (hst : St 0 s₂.heap) (hfp : ∀ b ∈ fp, b < s₂.heap.objs.size)
    (F : Fr h₀ L s₂.heap m) (N : News h₀ L s₂.heap news) (hIL : L ≠ I) (hI₀ : h₀.get? I = none) (off : ∀ p ∈ news, p.1 ≠ I)
    (R : ∀ i v I oI C oC D oD m₂ h tk (E' : Value → Shared → Prop), P i v → NsObj oC m₂ → m₂ x = some v → Fr h₀ L h m → News h₀ L h ((I, oI) :: (C, oC) :: (D, oD) :: news) → Off3 I C D news → ((@Ne Nat I C) ∧ (@Ne Nat I D) ∧ (@Ne Nat C D)) →
      wpAny (model prog w) A (eval elt (compEnvC scope cl C env)) (SetEnd h₀ L m { s₂ with heap := h, toks := tk } ((I, oI) :: (C, oC) :: (D, oD) :: news)) E' { s₂ with heap := h, toks := tk })
    (hRR : ∀ D C h tk m', Fr h₀ L h m → News h₀ L h ((D, set1 (!byT w)) :: news) → (∀ p ∈ news, p.1 ≠ D) → h.Ns C m' → h₀.get? C = none → C ≠ L → C ≠ D → (∀ p ∈ news, p.1 ≠ C) → RR (.ref D) C (.ok .next) { s₂ with heap := h, toks := tk }) :
    wpAny (model prog w) A (newSet (.type "set")) (fun acc s₃ => wpAny (model prog w) A (newFunctionEnv scope env.globals cl [] env.qual none .none (some env)) (fun cenv s₄ =>
      codeAny (model prog w) A (.compStart (.SetComp elt [⟨.Name x px, iter, [], 0⟩] scope pos) 0 (.ref I) acc { cenv with scope := relabel scope env }) (RR acc cenv.locals) s₄) E s₃) E s₂ := by
  refine new_set (wpAny_newFunctionEnv hcell (by intro y hy; simp at hy) (fun h₁ hns₁ hsb₁ => ?_) hkind)
  dsimp only at hns₁ hsb₁ ⊢
  generalize hH2 : s₂.heap.push (set0 (!byT w)) = H2 at hns₁ hsb₁ ⊢
  have hC : H2.objs.size = s₂.heap.objs.size + 1 := by rw [← hH2, Heap.size_push]
  have hDC : s₂.heap.objs.size ≠ H2.objs.size := by rw [hC]; exact Nat.ne_of_lt (Nat.lt_succ_self _)
  have below : ∀ b, b < s₂.heap.objs.size → b ≠ H2.objs.size ∧ b ≠ s₂.heap.objs.size := fun b hb => ⟨by rw [hC]; exact Nat.ne_of_lt (Nat.lt_succ_of_lt hb), Nat.ne_of_lt hb⟩
  have hDf : s₂.heap.objs.size ∉ fp := fun hm => Nat.lt_irrefl _ (hfp _ hm)
  have hCf : H2.objs.size ∉ fp := fun hm => by have := hfp _ hm; rw [hC] at this; exact Nat.lt_irrefl _ (Nat.lt_of_succ_lt this)
  have hIlt : I < s₂.heap.objs.size := hfp I (W.sub I (List.mem_singleton.mpr rfl))
  have old : ∀ b o, s₂.heap.get? b = some o → h₁.get? b = some o := fun b o e => hsb₁.extBut b o (below b (Heap.lt_size e)).1 (Heap.get?_push_of_some _ (hH2 ▸ Heap.get?_push_of_some _ e))
  have hacc : h₁.get? s₂.heap.objs.size = some (setOf 0 (!byT w)) := hsb₁.extBut _ _ hDC (Heap.get?_push_of_some _ (hH2 ▸ Heap.get?_push_size _ rfl))
  have hst₁ : St 0 h₁ := W.frame _ _ _ hst fun b _ o e => old b o e
  have fresh₀ : ∀ a, s₂.heap.objs.size ≤ a → h₀.get? a = none := fun a ha => by
    cases e : h₀.get? a with
    | none => rfl
    | some o' => exact absurd (Heap.lt_size (F.keep a o' e)) (Nat.not_lt.mpr ha)
  have hD₀ : h₀.get? s₂.heap.objs.size = none := fresh₀ _ (Nat.le_refl _)
  have hC₀ : h₀.get? H2.objs.size = none := fresh₀ _ (by rw [hC]; exact Nat.le_succ _)
  have hLlt : L < s₂.heap.objs.size := F.ns.lt
  have hDL : s₂.heap.objs.size ≠ L := Ne.symm (below L hLlt).2
  have hCL : H2.objs.size ≠ L := Ne.symm (below L hLlt).1
  have hCI : I ≠ H2.objs.size := (below I hIlt).1
  have hDI : I ≠ s₂.heap.objs.size := (below I hIlt).2
  have off3 : ∀ p ∈ news, p.1 ≠ I ∧ p.1 ≠ H2.objs.size ∧ p.1 ≠ s₂.heap.objs.size := fun p hp => ⟨off p hp, (below _ (Heap.lt_size (N p hp).1)).1, (below _ (Heap.lt_size (N p hp).1)).2⟩
  have off₀ : Off3 I H2.objs.size s₂.heap.objs.size news := Off3.of off3
  have loop : ∀ s₃ : Shared, s₃ = { s₂ with heap := h₁, toks := s₂.toks + ([] : List (Str × Value)).length } →
      codeAny (model prog w) A (.compLoop (.SetComp elt [⟨.Name x px, iter, [], 0⟩] scope pos) 0 (.ref I) (.ref s₂.heap.objs.size) (compEnvC scope cl H2.objs.size env))
        (RR (.ref s₂.heap.objs.size) H2.objs.size) s₃ := by
    rintro s₃ rfl
    refine loop_set
      (fun k s' => ∃ h' tk i m', s' = { s₂ with heap := h', toks := tk } ∧ i ≤ n ∧ k = n + 1 - i ∧ St i h' ∧ Fr h₀ L h' m ∧ h'.Ns H2.objs.size m' ∧ News h₀ L h' ((s₂.heap.objs.size, setOf i (!byT w)) :: news)) ?_ (n + 1)
      ⟨h₁, _, 0, _, rfl, Nat.zero_le _, rfl, hst₁, F.keeps old, hns₁, fun p hp => ?_⟩ (fun _ => rfl)
    · rintro k s' ⟨h', tk, i, m', rfl, hi, rfl, hst', F', hn', N'⟩
      by_cases hlt : i < n
      · refine W.item i _ _ _ hlt hst' fun v h₂ tk₂ hPv hst₂ hk₂ => ?_
        refine wpAny_assign_Name (wpAny_storeName_local (lookup_relabel_local hx) (hn'.at' fun o e => hk₂ _ o (by simpa using Ne.symm hCI) e) (fun h₃ hn₃ hs₃ => ?_) (by simp [compEnvC, relabel, hkind]))
        have hst₃ : St (i + 1) h₃ := W.frame _ _ _ hst₂ fun b hb o e => hs₃.extBut b o (fun q => hCf (by have q' : b = H2.objs.size := q; rw [← q']; exact hb)) e
        obtain ⟨oI, heI⟩ := hIo _ _ hst₃
        obtain ⟨oC, heC, hoC⟩ := ns_obj hn₃
        have F₃ : Fr h₀ L h₃ m := (fr_but F' hk₂ hIL hI₀).change hs₃ hCL hC₀
        have N₂ : News h₀ L h₂ ((s₂.heap.objs.size, setOf i (!byT w)) :: news) := news_but N' hk₂ fun p hp => by
          rcases List.mem_cons.mp hp with rfl | hp
          · exact Ne.symm hDI
          · exact (off3 p hp).1
        have N₃ : News h₀ L h₃ ((I, oI) :: (H2.objs.size, oC) :: (s₂.heap.objs.size, setOf i (!byT w)) :: news) := fun p hp => by
          rcases List.mem_cons.mp hp with rfl | hp
          · exact ⟨heI, Ne.symm hIL, hI₀⟩
          · rcases List.mem_cons.mp hp with rfl | hp
            · exact ⟨heC, hCL, hC₀⟩
            · have z := N₂ p hp
              refine ⟨hs₃.extBut _ _ ?_ z.1, z.2⟩
              rcases List.mem_cons.mp hp with rfl | hp
              · exact hDC
              · exact (off3 p hp).2.1
        refine wpAny_mono (R i v I oI H2.objs.size oC s₂.heap.objs.size _ _ h₃ _ _ hPv hoC (by simp) F₃ N₃ off₀ ⟨hCI, hDI, Ne.symm hDC⟩) (fun y s₄ h₄ => ?_) fun _ _ e => e
        obtain ⟨rfl, h₄, tk₄, rfl, F₄, N₄⟩ := h₄
        have zI := (N₄ (I, oI) List.mem_cons_self).1
        have zC := (N₄ (H2.objs.size, oC) (List.mem_cons_of_mem _ List.mem_cons_self)).1
        have zD := (N₄ (s₂.heap.objs.size, setOf i (!byT w)) (List.mem_cons_of_mem _ (List.mem_cons_of_mem _ List.mem_cons_self))).1
        have N₄' : News h₀ L h₄ news := fun p hp => N₄ p (List.mem_cons_of_mem _ (List.mem_cons_of_mem _ (List.mem_cons_of_mem _ hp)))
        have hst₄ : St (i + 1) h₄ := hSt _ _ _ _ hst₃ heI zI N₄'
        by_cases hi0 : i = 0
        · subst hi0
          refine add_first (D := s₂.heap.objs.size) (led := !byT w) zD fun h₅ hs₅ hD₅ => ?_
          refine ⟨n + 1 - (0 + 1), by omega, h₅, _, 0 + 1, _, rfl, hlt, rfl, W.frame _ _ _ hst₄ fun b hb o e => hs₅.extBut b o (fun q => hDf (q ▸ hb)) e, F₄.change hs₅ hDL hD₀,
            (hoC.ns zC).sameBut hs₅ (Ne.symm hDC), fun p hp => ?_⟩
          rcases List.mem_cons.mp hp with rfl | hp
          · exact ⟨hD₅, hDL, hD₀⟩
          · exact ⟨hs₅.extBut _ _ (off3 p hp).2.2 (N₄' p hp).1, (N₄' p hp).2⟩
        · have es : ∀ j, j ≠ 0 → setOf j (!byT w) = set1 (!byT w) := fun j hj => if_neg hj
          rw [es i hi0] at zD
          refine add_again (D := s₂.heap.objs.size) (led := !byT w) zD ?_
          refine ⟨n + 1 - (i + 1), by omega, h₄, _, i + 1, _, rfl, hlt, rfl, hst₄, F₄, hoC.ns zC, fun p hp => ?_⟩
          rcases List.mem_cons.mp hp with rfl | hp
          · exact ⟨(es (i + 1) (Nat.succ_ne_zero _)).symm ▸ zD, hDL, hD₀⟩
          · exact N₄' p hp
      · obtain rfl : i = n := Nat.le_antisymm hi (Nat.not_lt.mp hlt)
        refine W.done _ _ _ hst' fun h₂ tk₂ hk₂ => ?_
        have es : setOf i (!byT w) = set1 (!byT w) := if_neg (by omega)
        rw [es] at N'
        exact hRR _ _ h₂ tk₂ _ (fr_but F' hk₂ hIL hI₀) (news_but N' hk₂ fun p hp => by
          rcases List.mem_cons.mp hp with rfl | hp
          · exact Ne.symm hDI
          · exact (off3 p hp).1) (fun p hp => (off3 p hp).2.2) (hn'.at' fun o e => hk₂ _ o (by simpa using Ne.symm hCI) e) hC₀ hCL (Ne.symm hDC) (fun p hp => (off3 p hp).2.1)
    · rcases List.mem_cons.mp hp with rfl | hp
      · exact ⟨hacc, hDL, hD₀⟩
      · exact ⟨old _ _ (N p hp).1, (N p hp).2⟩
  exact start_set (loop _ rfl) (W.self 0 _ _ _ hst₁ (loop _ rfl))
theorem SetComp_true {elt iter : Expr} {x : Str} {px : Pos} {scope : Scope} {cl : List (Str × Addr)} {pos : Pos} {Q : Value → Shared → Prop} (_F₀ : Fr h₀ L s.heap m)
    (hclos : closureFor scope env = pure cl) (hcell : ∀ y ∈ scope.names, y.2 ≠ .cell) (hkind : scope.kind = .function)
    (hnames : ∀ y ∈ scope.names, y.2 = .local → scope.names.lookup y.1 = some .local) (hx : scope.names.lookup x = some .local)
    (h : wpAny (model prog w) A (eval iter env) (SetSrc prog w A h₀ L m env elt x scope cl Q) E s)
    (hs : ∀ x, foldedSetIterable iter env x = pure x := by intro _; rfl) :
    wpAny (model prog w) A (eval (.SetComp elt [⟨.Name x px, iter, [], 0⟩] scope pos) env) Q E s := by
  rw [arm_eval_SetComp]
  refine wpAny_comprehension_free (use := none) rfl hs hclos hkind hnames (wpAny_mono h (fun xv s₁ h₁ => ?_) fun _ _ e => e)
  obtain ⟨ax, its, k, news, rfl, hh, F, N, hm, hn0, hsz, R, fin⟩ := h₁
  have hl : s₁.heap.IsTuple ax its := ⟨_, (N _ hm).1, rfl, _, rfl⟩
  have hlt : ax < s₁.heap.objs.size := Heap.lt_size (N _ hm).1
  refine wpAny_pyIter_tuple hl ?_
  have up : ∀ b o, s₁.heap.get? b = some o → (s₁.heap.push { cls := .type "tuple_iterator", data := .fields #[.ref ax, .int 0 0] }).get? b = some o := fun b o e => Heap.get?_push_of_some _ e
  refine block_set (Walks.tuple hh s₁.heap.objs.size ax (Nat.ne_of_lt hlt) its) hn0 (fun i h st => by obtain ⟨o, e, _⟩ := st.1; exact ⟨o, e⟩)
    (fun i h h' o st e e' N' => ⟨by obtain ⟨o', q, r⟩ := st.1; rw [e] at q; cases q; exact ⟨o, e', r⟩, ⟨_, (N' _ hm).1, rfl, _, rfl⟩⟩) hcell hkind hx ⟨⟨_, Heap.get?_push_size _ rfl, rfl, rfl⟩, hl.push _⟩ (fun b hb => ?_)
    (F.keeps up) (N.grown up) (Nat.ne_of_lt F.ns.lt) (next_is_new F) (fun p hp => Nat.ne_of_lt (Heap.lt_size (N p hp).1)) (fun i v I oI C oC D oD m₂ h tk E' hP => R v I oI C oC D oD m₂ h tk E' (by
      have e : its.toList[i]? = some v := by simpa using hP
      exact List.mem_of_getElem? e)) ?_
  · show b < (s₁.heap.push _).objs.size
    rw [Heap.size_push]
    rcases List.mem_cons.mp hb with rfl | hb
    · exact Nat.lt_succ_self _
    · rw [List.mem_singleton.mp hb]; exact Nat.lt_succ_of_lt hlt
  · intro D C h' tk m' F' N' o1 hn hC₀ hCL hCD offC
    refine ⟨m', hn, fun h'' hs'' => fin D h'' tk (F'.change hs'' hCL hC₀) (fun p hp => ?_) o1⟩
    refine ⟨hs''.extBut _ _ ?_ (N' p hp).1, (N' p hp).2⟩
    rcases List.mem_cons.mp hp with rfl | hp
    · exact Ne.symm hCD
    · exact offC p hp
end
end Mine
end

section
open PySem PySem.W PyProof.Rows PySem.Spec PySem.Calls
set_option maxRecDepth 100000
namespace Mine
section
variable {prog : Program} {w : World} {A : Around} {E : Value → Shared → Prop} {s : Shared} {h₀ : Heap} {L : Addr} {m : Str → Option Value} {env : Env}
/-- a try whose body lets no exception out -/
theorem Try_calm {body : List Stmt} {c : ExceptHandler} {hs : List ExceptHandler} {pos : Pos} {Q : Flow → Shared → Prop}
    (h : wpAny (model prog w) A (execs body env) (fun f s₁ => match f with | .next => wpAny (model prog w) A (execs [] env) Q E s₁ | f => Q f s₁) (fun _ _ => False) s) :
    wpAny (model prog w) A (exec (.Try body (c :: hs) [] [] pos) env) Q E s :=
  wpAny_Try_except (wpAny_mono h (fun _ _ q => q) fun _ _ q => q.elim)
/-- one name takes the one element of the set -/
theorem assign_one {y : Str} {py tpos : Pos} {x1 : Nat} {D : Addr} {news : List (Addr × Obj)} {Q : Unit → Shared → Prop} (hh : A.handled = none) (F : Fr h₀ env.locals s.heap m) (N : News h₀ env.locals s.heap news) (hm : (D, set1 (!byT w)) ∈ news)
    (hy : env.kindOf y = some .local) (hp : (env.scope.kind == .class || (env.scope.kind == .module && env.locals != env.globals)) = false)
    (h : ∀ h' tk, Fr h₀ env.locals h' (fun z => if z = y then some (.bool true) else m z) → News h₀ env.locals h' news → Q () { s with heap := h', toks := tk }) :
    wpAny (model prog w) A (assign (.Tuple [.Name y py] x1 tpos) env (.ref D)) Q E s := by
  have hD := (N _ hm).1
  rw [arm_assign_Tuple]
  refine wpAny_bind (wpAny_standAt ?_)
  unfold unpack
  refine wpAny_bind (wpAny_holding ?_)
  show wpAny _ _ (unpackItems (.ref D) 1 none) _ _ _
  refine unpack_set hh hD fun h₁ e₁ => ?_
  have k₁ : ∀ b o, s.heap.get? b = some o → h₁.get? b = some o := fun b o e => e₁ b o (Nat.ne_of_lt (Heap.lt_size e)) e
  have F₁ := F.keeps k₁
  have N₁ : News h₀ env.locals h₁ news := fun p hp => ⟨k₁ _ _ (N p hp).1, (N p hp).2⟩
  show wpAny _ _ (do holding [] (assign (.Name y py) env (.bool true)); pure ()) _ _ _
  refine wpAny_bind (wpAny_holding (wpAny_assign_Name (wpAny_storeName_local hy F₁.ns (fun h₂ hn₂ hs₂ => ?_) hp)))
  refine wpAny_pure ?_
  exact h _ _ (F₁.set hn₂ hs₂) (N₁.set hs₂)
end
end Mine
end

section
open PySem PySem.W PyProof.Rows
namespace Mine
theorem lex_asymm : ∀ {x y : List Str}, lexLt x y = true → ¬ lexLt y x = true
  | [], [], h => by simp [lexLt] at h
  | [], _ :: _, _ => by simp [lexLt]
  | _ :: _, [], h => by simp [lexLt] at h
  | a :: x, b :: y, h => by
    simp only [lexLt] at h ⊢
    by_cases hab : a = b
    · rw [if_pos hab] at h
      rw [if_pos hab.symm]
      exact lex_asymm h
    · rw [if_neg hab] at h
      rw [if_neg (Ne.symm hab)]
      have h1 : tl a < tl b := by simpa using h
      simpa using List.le_of_lt h1
theorem lex_total : ∀ {x y : List Str}, ¬ lexLt x y = true → ¬ lexLt y x = true → x = y
  | [], [], _, _ => rfl
  | [], _ :: _, h, _ => by simp [lexLt] at h
  | _ :: _, [], _, h => by simp [lexLt] at h
  | a :: x, b :: y, h1, h2 => by
    simp only [lexLt] at h1 h2
    by_cases hab : a = b
    · rw [if_pos hab] at h1
      rw [if_pos hab.symm] at h2
      rw [hab, lex_total h1 h2]
    · rw [if_neg hab] at h1
      rw [if_neg (Ne.symm hab)] at h2
      exfalso
      apply hab
      apply str_ext
      have h3 : ¬ tl a < tl b := by simpa using h1
      have h4 : ¬ tl b < tl a := by simpa using h2
      exact List.le_antisymm (List.not_lt.mp h4) (List.not_lt.mp h3)
theorem lex_prefix : ∀ {x y : List Str} {i : Nat}, ¬ lexLt y x = true → i < x.length → x.take i = y.take i → i < y.length
  | [], _, _, _, h, _ => by simp at h
  | _ :: _, [], _, h, _, _ => by simp [lexLt] at h
  | _ :: _, _ :: _, 0, _, _, _ => by simp
  | a :: x, b :: y, i + 1, h1, h2, h3 => by
    simp only [List.take_succ_cons, List.cons.injEq] at h3
    simp only [lexLt] at h1
    rw [if_pos h3.1.symm] at h1
    have := lex_prefix (i := i) h1 (by simpa using h2) h3.2
    simpa using this
theorem lcp_comm : ∀ (x y : List Str), lcp x y = lcp y x
  | [], [] => rfl
  | [], _ :: _ => rfl
  | _ :: _, [] => rfl
  | a :: x, b :: y => by
    simp only [lcp]
    by_cases h : a = b
    · rw [if_pos h, if_pos h.symm, lcp_comm x y, h]
    · rw [if_neg h, if_neg (Ne.symm h)]
/-- where the loop breaks -/
theorem lcp_at {x y : List Str} {i : Nat} {c d : Str} (h : x.take i = y.take i) (h1 : x[i]? = some c) (h2 : y[i]? = some d) (hne : c ≠ d) : x.take i = lcp x y := by
  have l1 := (List.getElem?_eq_some_iff.mp h1).1
  have l2 := (List.getElem?_eq_some_iff.mp h2).1
  exact (lcp_take (by omega) (by omega) h (.inr (.inr (by rw [h1, h2]; simpa using hne)))).symm
theorem lcp_whole {x y : List Str} (h : x.take x.length = y.take x.length) : x = lcp x y := by
  have e : x.take x.length = x := List.take_length
  have l : x.length ≤ y.length := by
    have := congrArg List.length h
    rw [List.length_take, List.length_take] at this
    omega
  have := lcp_take (Nat.le_refl _) l h (.inl rfl)
  rw [this, e]
theorem take_one {x y : List Str} {i : Nat} {c : Str} (h : x.take i = y.take i) (h1 : x[i]? = some c) (h2 : y[i]? = some c) : x.take (i + 1) = y.take (i + 1) := by
  rw [List.take_add_one, List.take_add_one, h, h1, h2]
theorem weight_mem {ys : List Str} {y : Str} (h : y ∈ ys) : y.length + 1 ≤ weight ys := by
  obtain ⟨i, hi⟩ := List.mem_iff_getElem?.mp h
  exact weight_get hi
theorem parts_small {cs : List Str} : ∀ c ∈ Str.empty :: parts cs, c.length ≤ weight cs := by
  intro c hc
  rcases List.mem_cons.mp hc with rfl | hc
  · exact Nat.zero_le _
  · unfold parts at hc
    split at hc
    · rw [List.mem_singleton.mp hc]; exact Nat.zero_le _
    · have := weight_mem hc; omega
theorem getD_at {y : List Str} {i : Nat} (h : i < y.length) : y[i]? = some (y.getD (i : Int).toNat Str.empty) := by
  have e : (i : Int).toNat = i := by omega
  rw [e, List.getD_eq_getElem?_getD, List.getElem?_eq_getElem h]
  rfl
theorem fork_break {x y a b : List Str} {i : Nat} {c : Str} (lx : lcp x y = lcp a b) (h : x.take i = y.take i) (h1 : x[i]? = some c) (h2 : i < y.length) (hne : (c != y.getD (i : Int).toNat Str.empty) = true) : one 47 ++ Str.join (one 47) (x.take i) = PP (lcp a b) := by
  rw [← lx, ← lcp_at h h1 (getD_at h2) (by simpa using hne)]
  rfl
theorem fork_on {x y : List Str} {i : Nat} {c : Str} (h : x.take i = y.take i) (h1 : x[i]? = some c) (h2 : i < y.length) (hne : (c != y.getD (i : Int).toNat Str.empty) = false) : x.take (i + 1) = y.take (i + 1) := by
  have e : c = y.getD (i : Int).toNat Str.empty := by simpa using hne
  exact take_one h h1 (e ▸ getD_at h2)
theorem fork_end {x y a b : List Str} {n : Nat} (lx : lcp x y = lcp a b) (hn : n = x.length) (h : x.take n = y.take n) : one 47 ++ Str.join (one 47) x = PP (lcp a b) := by
  subst hn
  rw [← lx, ← lcp_whole h]
  rfl
end Mine
end

section
open PySem PySem.W PyProof.Rows PySem.Spec PySem.Calls
set_option maxRecDepth 100000
namespace Mine
open LCg LCt
section
variable {prog : Program} {w : World} {A : Around} {E : Value → Shared → Prop} {s : Shared} {h₀ : Heap} {L : Addr} {m : Str → Option Value} {env : Env}
theorem strs_add : ∀ {us : List Value} {ys : List Str} {p : Str} {t : Tok}, StrsAre us ys → StrsAre (us ++ [Value.str p t]) (ys ++ [p]) := fun {us ys p t} h => by
  have := strs_snoc (us := us) (ys := ys) (p := p) (t := t) h
  simpa using this
/-- a comprehension that keeps some of a list of texts -/
theorem rest_keep {ct elt : Expr} {x : Str} {scope : Scope} {cl : List (Str × Addr)} {S : List (Addr × Obj) → Prop} {Fin : List Value → List (Addr × Obj) → Prop} {news : List (Addr × Obj)} {its : Array Value} {zs : List Str} (hS : S news) (hI : StrsAre its.toList zs)
    (ht : ∀ y t I oI C oC D ys m₂ h tk (E' : Value → Shared → Prop), y ∈ zs → NsObj oC m₂ → m₂ x = some (.str y t) → Fr h₀ L h m → News h₀ L h ((I, oI) :: (C, oC) :: (D, lst ys) :: news) → Off3 I C D news → ((@Ne Nat I C) ∧ (@Ne Nat I D) ∧ (@Ne Nat C D)) →
      wpAny (model prog w) A (isTrue ct (compEnvC scope cl C env) (eval ct (compEnvC scope cl C env))) (fun ok s' => ok = keepC y ∧ ∃ tk', s' = { s with heap := h, toks := tk' }) E' { s with heap := h, toks := tk })
    (he : ∀ y t I oI C oC D ys m₂ h tk (E' : Value → Shared → Prop), NsObj oC m₂ → m₂ x = some (.str y t) → Fr h₀ L h m → News h₀ L h ((I, oI) :: (C, oC) :: (D, lst ys) :: news) → Off3 I C D news → ((@Ne Nat I C) ∧ (@Ne Nat I D) ∧ (@Ne Nat C D)) →
      wpAny (model prog w) A (eval elt (compEnvC scope cl C env)) (fun v s' => v = .str y t ∧ ∃ tk', s' = { s with heap := h, toks := tk' }) E' { s with heap := h, toks := tk })
    (fin : ∀ ys, StrsAre ys (zs.filter keepC) → Fin ys news) :
    ∀ k i ys, its.size - i = k → i ≤ its.size → StrsAre ys ((zs.take i).filter keepC) → CompRestT prog w A h₀ L m env ct elt x scope cl s S (fun i v => its[i]? = some v) Fin k i ys news := by
  have hsz : its.size = zs.length := size_strs hI
  intro k
  induction k with
  | zero =>
    intro i ys hk hi hy
    refine CompRestT.zero (fin ys ?_)
    rw [List.take_of_length_le (by omega)] at hy
    exact hy
  | succ k ih =>
    intro i ys hk hi hy
    refine CompRestT.succ fun v I oI C oC D m₂ h tk E' hv hC hx F N off ne => ?_
    have hv' : its.toList[i]? = some v := by simpa using hv
    obtain ⟨y, t, rfl, hz⟩ := StrsAre.item hI _ _ hv'
    have hstep : (zs.take (i + 1)).filter keepC = (zs.take i).filter keepC ++ (if keepC y = true then [y] else []) := by
      rw [List.take_add_one, hz, List.filter_append]
      cases hc : keepC y <;> simp [hc]
    refine wpAny_mono (ht y t I oI C oC D ys m₂ h tk E' (List.mem_of_getElem? hz) hC hx F N off ne) (fun ok s' q => ?_) fun _ _ e => e
    obtain ⟨rfl, tk', rfl⟩ := q
    cases hc : keepC y with
    | true =>
      rw [hc, if_pos rfl] at hstep
      simp only [if_true]
      refine wpAny_mono (he y t I oI C oC D ys m₂ h tk' E' hC hx F N off ne) (fun v s' q => ?_) fun _ _ e => e
      obtain ⟨rfl, tk₂, rfl⟩ := q
      exact CompEnd.intro F N news (fun p hp => hp) off hS (ih (i + 1) _ (by omega) (by omega) (hstep ▸ strs_add hy))
    | false =>
      rw [hc, if_neg (by decide), List.append_nil] at hstep
      simp only [Bool.false_eq_true, if_false]
      exact CompEnd.intro F N news (fun p hp => hp) off hS (ih (i + 1) _ (by omega) (by omega) (hstep ▸ hy))
end
end Mine
namespace Mine
open LCg LCt
/-- a turn of a comprehension that has made one object -/
theorem end_one {h₀ : Heap} {L I C D D2 : Addr} {m : Str → Option Value} {s₁ : Shared} {oI oC oD o2 : Obj} {S : List (Addr × Obj) → Prop} {rest : Value → List (Addr × Obj) → Prop} {y : Value} {h' : Heap} {tk : Nat} {news : List (Addr × Obj)}
    (F : Fr h₀ L h' m) (N : News h₀ L h' ((D2, o2) :: (I, oI) :: (C, oC) :: (D, oD) :: news)) (off : Off3 I C D news) (o2' : Off1 D2 ((I, oI) :: (C, oC) :: (D, oD) :: news)) (hS : S ((D2, o2) :: news)) (r : rest y ((D2, o2) :: news)) :
    CompEnd h₀ L m s₁ I oI C oC D oD S rest y { s₁ with heap := h', toks := tk } := by
  refine CompEnd.intro F N ((D2, o2) :: news) (fun p hp => ?_) ⟨⟨Ne.symm o2'.1, Ne.symm o2'.2.1, Ne.symm o2'.2.2.1⟩, off⟩ hS r
  simp only [List.mem_cons] at hp ⊢
  rcases hp with h | h | h | h | h
  · exact .inr (.inl h)
  · exact .inr (.inr (.inl h))
  · exact .inr (.inr (.inr (.inl h)))
  · exact .inl h
  · exact .inr (.inr (.inr (.inr h)))
end Mine
namespace Mine
open LCg
theorem keep_y {y : Str} {b : Bool} (h1 : (y.length : Int) ≠ 0) (h2 : (y != one 46) = b) : b = keepC y := by
  unfold keepC
  have h3 : y.length ≠ 0 := by omega
  rw [h2, show (y.length == 0) = false by simpa using h3]
  simp
theorem keep_n {y : Str} (h1 : (y.length : Int) = 0) : false = keepC y := by
  unfold keepC
  have h3 : y.length = 0 := by omega
  rw [show (y.length == 0) = true by simpa using h3]
  simp
section
variable {prog : Program} {w : World} {A : Around} {E : Value → Shared → Prop} {s : Shared} {h₀ : Heap} {L : Addr} {m : Str → Option Value} {news : List (Addr × Obj)}
theorem min_K {l a b r : Addr} {us vs : Array Value} {n n2 n3 : Nat} {xs ys : List Str} {Q : Value → Shared → Prop} (hh : A.handled = none) (F : Fr h₀ L s.heap m) (N : News h₀ L s.heap news) (hu : A.in1.units < cLine)
    (hl : (l, ({ cls := .type "list", data := .seq #[.ref a, .ref b] n3 } : Obj)) ∈ news) (ha : (a, listOf us n) ∈ news) (hb : (b, listOf vs n2) ∈ news) (hx : StrsAre us.toList xs) (hy : StrsAre vs.toList ys)
    (hc : (if lexLt ys xs = true then b else a) = r) (h : ∀ h' tk, Fr h₀ L h' m → News h₀ L h' news → Q (.ref r) { s with heap := h', toks := tk }) : wpAny (model prog w) A (call (.builtin "min") [.ref l]) Q E s := by
  refine call_min_lists hh hu ⟨_, (N _ hl).1, rfl, _, rfl⟩ (N _ ha).1 (N _ hb).1 hx hy fun h' tk st => ?_
  rw [hc]
  exact h h' tk (Fr.stays F st) (News.stays N st)
theorem max_K {l a b r : Addr} {us vs : Array Value} {n n2 n3 : Nat} {xs ys : List Str} {Q : Value → Shared → Prop} (hh : A.handled = none) (F : Fr h₀ L s.heap m) (N : News h₀ L s.heap news) (hu : A.in1.units < cLine)
    (hl : (l, ({ cls := .type "list", data := .seq #[.ref a, .ref b] n3 } : Obj)) ∈ news) (ha : (a, listOf us n) ∈ news) (hb : (b, listOf vs n2) ∈ news) (hx : StrsAre us.toList xs) (hy : StrsAre vs.toList ys)
    (hc : (if lexLt xs ys = true then b else a) = r) (h : ∀ h' tk, Fr h₀ L h' m → News h₀ L h' news → Q (.ref r) { s with heap := h', toks := tk }) : wpAny (model prog w) A (call (.builtin "max") [.ref l]) Q E s := by
  refine call_max_lists hh hu ⟨_, (N _ hl).1, rfl, _, rfl⟩ (N _ ha).1 (N _ hb).1 hx hy fun h' tk st => ?_
  rw [hc]
  exact h h' tk (Fr.stays F st) (News.stays N st)
end
end Mine
namespace Mine
open LCg
theorem News.tail {h₀ h : Heap} {L : Addr} {p : Addr × Obj} {news : List (Addr × Obj)} (N : News h₀ L h (p :: news)) : News h₀ L h news := fun q hq => N q (.tail _ hq)
theorem News.two {h₀ h : Heap} {L : Addr} {p q : Addr × Obj} {news : List (Addr × Obj)} (N : News h₀ L h (p :: q :: news)) : News h₀ L h [p, q] := fun r hr => N r (by
  simp only [List.mem_cons, List.not_mem_nil, or_false] at hr ⊢
  exact hr.elim .inl fun z => .inr (.inl z))
theorem News.both {h₀ h : Heap} {L : Addr} {as bs : List (Addr × Obj)} (N : News h₀ L h as) (M : News h₀ L h bs) : News h₀ L h (as ++ bs) := fun r hr => (List.mem_append.mp hr).elim (N r) (M r)
/-- what min and max pick -/
theorem pick {h₀ : Heap} {L Da Db : Addr} {ysa ysb : List Value} {a b : List Str} (ha : StrsAre ysa.toArray.toList a) (hb : StrsAre ysb.toArray.toList b) (wa : weight a ≤ 3000) (wb : weight b ≤ 3000) :
    ∃ (d1 d2 : Addr) (v1 v2 : Array Value) (n1 n2 : Nat) (x1 x2 : List Str), (if lexLt b a = true then Db else Da) = d1 ∧ (if lexLt a b = true then Db else Da) = d2 ∧
      (∀ h, News h₀ L h [(Db, lst ysb), (Da, lst ysa)] → News h₀ L h [(d1, listOf v1 n1), (d2, listOf v2 n2)]) ∧ StrsAre v1.toList x1 ∧ StrsAre v2.toList x2 ∧
      (∀ i, i < x1.length → x1.take i = x2.take i → i < x2.length) ∧ lcp x1 x2 = lcp a b ∧ weight x1 ≤ 3000 ∧ weight x2 ≤ 3000 := by
  by_cases c1 : lexLt b a = true
  · have c2 := lex_asymm c1
    exact ⟨Db, Da, ysb.toArray, ysa.toArray, _, _, b, a, if_pos c1, if_neg c2, fun _ N => N, hb, ha, fun i => lex_prefix c2, lcp_comm b a, wb, wa⟩
  · by_cases c2 : lexLt a b = true
    · exact ⟨Da, Db, ysa.toArray, ysb.toArray, _, _, a, b, if_neg c1, if_pos c2, fun _ N => News.two (p := (Da, lst ysa)) (q := (Db, lst ysb)) (news := []) (fun r hr => N r (by
        simp only [List.mem_cons, List.not_mem_nil, or_false] at hr ⊢
        exact hr.symm)), ha, hb, fun i => lex_prefix c1, rfl, wa, wb⟩
    · have e : a = b := lex_total c2 c1
      exact ⟨Da, Da, ysa.toArray, ysa.toArray, ysa.length, ysa.length, a, a, if_neg c1, if_neg c2, fun _ N => fun r hr => N r (by
        simp only [List.mem_cons, List.not_mem_nil, or_false] at hr ⊢
        exact .inr (hr.elim id id)), ha, ha, fun i h _ => h, by rw [← e], wa, wa⟩
end Mine
namespace Mine
theorem units_min {dp un : Nat} {outer : List Env} {gd : Option (List Code)} {env : Env} (h : un + 40 < cLine) : ((Arnd dp outer gd un).deeper env).in1.units < cLine := by
  show un + 3 + 1 < cLine
  omega
end Mine
end

section
open PySem PySem.W PyProof.Rows PySem.Spec PySem.Calls
set_option maxRecDepth 100000
namespace Mine
open LCg
section
variable {prog : Program} {w : World} {A : Around} {E : Value → Shared → Prop} {s : Shared} {h₀ : Heap} {L : Addr} {m : Str → Option Value} {env : Env}
def MapEnd (h₀ : Heap) (L : Addr) (m : Str → Option Value) (s : Shared) (all : List (Addr × Obj)) (z : Str) (v : Value) (s' : Shared) : Prop :=
  ∃ t', v = .str z t' ∧ ∃ h' tk', s' = { s with heap := h', toks := tk' } ∧ Fr h₀ L h' m ∧ News h₀ L h' all
/-- a comprehension over a range that makes one text a turn -/
theorem rest_map {elt : Expr} {x : Str} {scope : Scope} {cl : List (Str × Addr)} {S : List (Addr × Obj) → Prop} {Fin : List Value → List (Addr × Obj) → Prop} {news : List (Addr × Obj)} {n : Nat} (f : Nat → Str) (hS : S news)
    (he : ∀ (i : Nat) t I oI C oC D ys m₂ h tk (E' : Value → Shared → Prop), i < n → NsObj oC m₂ → m₂ x = some (.int (i : Int) t) → Fr h₀ L h m → News h₀ L h ((I, oI) :: (C, oC) :: (D, lst ys) :: news) → Off3 I C D news → ((@Ne Nat I C) ∧ (@Ne Nat I D) ∧ (@Ne Nat C D)) →
      wpAny (model prog w) A (eval elt (compEnvC scope cl C env)) (MapEnd h₀ L m { s with heap := h, toks := tk } ((I, oI) :: (C, oC) :: (D, lst ys) :: news) (f i)) E' { s with heap := h, toks := tk })
    (fin : ∀ ys, StrsAre ys ((List.range n).map f) → Fin ys news) :
    ∀ k i ys, n - i = k → i ≤ n → StrsAre ys ((List.range i).map f) → CompRest prog w A h₀ L m env elt x scope cl s S (fun i v => ∃ t, v = .int (0 + (i : Int)) t) Fin k i ys news := by
  intro k
  induction k with
  | zero =>
    intro i ys hk hi hy
    have e : i = n := by omega
    subst e
    exact CompRest.zero (fin ys hy)
  | succ k ih =>
    intro i ys hk hi hy
    refine CompRest.succ fun v I oI C oC D m₂ h tk E' hv hC hx F N off ne => ?_
    obtain ⟨t, rfl⟩ := hv
    rw [Int.zero_add] at hx
    refine wpAny_mono (he i t I oI C oC D ys m₂ h tk E' (by omega) hC hx F N off ne) (fun v s' q => ?_) fun _ _ e => e
    obtain ⟨t', rfl, h', tk', rfl, F', N'⟩ := q
    refine CompEnd.intro F' N' news (fun p hp => hp) off hS (ih (i + 1) _ (by omega) (by omega) ?_)
    rw [List.range_succ, List.map_append]
    exact strs_add hy
end
/-- what the law's pieces are -/
def words5 : List Str := [Str.ofString "a", Str.ofString "b", Str.ofString "ab", Str.ofString "b a", Str.ofString "-"]
def word (k : Nat) : Str := words5.getD k Str.empty
def namesOf (n : Nat) : List Str := (List.range (1 + n / 4 % 3)).map fun i => word (n / 12 / 5 ^ i % 5)
def piecesOf (n : Nat) : List Str := List.replicate (n % 4) Str.empty ++ namesOf n
end Mine
namespace Mine
theorem f4 (n : Nat) : ((n : Int).fdiv 4).fmod 3 = ((n / 4 % 3 : Nat) : Int) := by
  rw [Int.fdiv_eq_ediv_of_nonneg _ (by decide), Int.fmod_eq_emod_of_nonneg _ (by decide)]
  omega
theorem fm (n k : Nat) : (n : Int).fmod (k : Int) = ((n % k : Nat) : Int) := by
  rw [Int.fmod_eq_emod_of_nonneg _ (by omega)]
  omega
theorem fd (n k : Nat) : (n : Int).fdiv (k : Int) = ((n / k : Nat) : Int) := by
  rw [Int.fdiv_eq_ediv_of_nonneg _ (by omega)]
  rfl
theorem range_small {b : Int} (h0 : 0 ≤ b) (h : b ≤ 100) : Builtin.Range.small 0 b 1 = true ∧ Builtin.Range.rangeSize 0 b 1 = ((b.toNat : Nat) : Int) := by
  have hs : Builtin.Range.rangeSize 0 b 1 = b := by
    unfold Builtin.Range.rangeSize
    rw [if_pos (by decide)]
    split <;> omega
  constructor
  · unfold Builtin.Range.small
    rw [hs]
    simp only [Builtin.Range.rangeFitsLong, Bool.and_eq_true, Bool.or_eq_true, decide_eq_true_eq, beq_iff_eq, show ((1 : Int) > 0) by decide, if_true]
    omega
  · rw [hs, Int.toNat_of_nonneg h0]
end Mine
namespace Mine
theorem five (x : Int) : 0 ≤ x.fmod 5 ∧ x.fmod 5 < 5 := ⟨Int.fmod_nonneg_of_pos _ (by decide), Int.fmod_lt_of_pos _ (by decide)⟩
theorem idx (n i : Nat) : ((((n : Int).fdiv 12).fdiv ((5 ^ i : Nat) : Int)).fmod 5).toNat = n / 12 / 5 ^ i % 5 := by
  have e : (n : Int).fdiv 12 = ((n / 12 : Nat) : Int) := fd n 12
  have e2 : ((n / 12 / 5 ^ i : Nat) : Int).fmod 5 = ((n / 12 / 5 ^ i % 5 : Nat) : Int) := fm (n / 12 / 5 ^ i) 5
  rw [e, fd, e2]
  omega
theorem words_are (t1 t2 t3 t4 t5 : Tok) : StrsAre [.str (Str.ofString "a") t1, .str (Str.ofString "b") t2, .str (Str.ofString "ab") t3, .str (Str.ofString "b a") t4, .str (Str.ofString "-") t5] words5 :=
  .cons _ _ (.cons _ _ (.cons _ _ (.cons _ _ (.cons _ _ .nil))))
end Mine
namespace Mine
theorem item_word {prog : Program} {w : World} {A : Around} {E : Value → Shared → Prop} {s : Shared} {h₀ : Heap} {L a : Addr} {news : List (Addr × Obj)} {value slice : Expr} {x : Int} {u t1 t2 t3 t4 t5 : Tok} {c : Nat} {Q : Value → Shared → Prop} (N : News h₀ L s.heap news)
    (hm : (a, ({ cls := .type "tuple", data := .seq #[.str (Str.ofString "a") t1, .str (Str.ofString "b") t2, .str (Str.ofString "ab") t3, .str (Str.ofString "b a") t4, .str (Str.ofString "-") t5] c } : Obj)) ∈ news)
    (h : ∀ t', Q (.str (word (x.fmod 5).toNat) t') s)
    (hs : subscripted slice false (.ref a) (.int (x.fmod 5) u) = operate [.ref a, .int (x.fmod 5) u] (getItem (.ref a) (.int (x.fmod 5) u))) (hg : ∀ r, letTemporaryGo value (.ref a) r = pure ()) :
    wpAny (model prog w) A (subscriptTail value slice (.ref a) (.int (x.fmod 5) u)) Q E s :=
  item_strsTu (l := [_, _, _, _, _]) ⟨_, (N _ hm).1, rfl, _, rfl⟩ (words_are _ _ _ _ _) (five x).1 (five x).2 (Int.lt_trans (five x).2 (by decide)) h hs hg
end Mine
namespace Mine
theorem strs_app : ∀ {us vs : List Value} {xs ys : List Str}, StrsAre us xs → StrsAre vs ys → StrsAre (us ++ vs) (xs ++ ys)
  | _, _, _, _, .nil, h => h
  | _, _, _, _, .cons y t g, h => .cons y t (strs_app g h)
theorem strs_rep (y : Str) (t : Tok) : ∀ k : Nat, StrsAre (List.replicate k (.str y t)) (List.replicate k y)
  | 0 => .nil
  | k + 1 => .cons y t (strs_rep y t k)
section
variable {prog : Program} {w : World} {A : Around} {E : Value → Shared → Prop} {s : Shared} {h₀ : Heap} {L l : Addr} {m : Str → Option Value} {news : List (Addr × Obj)}
theorem mul_blank {x : Int} {u t1 : Tok} {e : Str} {c : Nat} {Q : Value → Shared → Prop} (F : Fr h₀ L s.heap m) (N : News h₀ L s.heap news) (hm : (l, ({ cls := .type "list", data := .seq #[.str e t1] c } : Obj)) ∈ news)
    (h : ∀ D h', Fr h₀ L h' m → News h₀ L h' ((D, listOf (List.replicate (x.fmod 4).toNat (.str e t1)).toArray 0) :: news) → (∀ p ∈ news, p.1 < D) → Q (.ref D) { s with heap := h' }) :
    wpAny (model prog w) A (binaryOp .Mult (.ref l) (.int (x.fmod 4) u)) Q E s := by
  have h0 : 0 ≤ x.fmod 4 := Int.fmod_nonneg_of_pos _ (by decide)
  have h1 : x.fmod 4 < 4 := Int.fmod_lt_of_pos _ (by decide)
  exact KMa.mul (vs := [.str e t1]) F N ⟨_, (N _ hm).1, rfl, _, rfl⟩ (by omega) (by omega) (by simp only [List.length_singleton]; omega) (lm_rep_flat_one _ _) h
end
theorem mod4 (n : Nat) : ((n : Int).fmod 4).toNat = n % 4 := by
  have e : (n : Int).fmod 4 = ((n % 4 : Nat) : Int) := fm n 4
  rw [e]; omega
theorem names_len (n : Nat) : (namesOf n).length ≤ 3 := by unfold namesOf; rw [List.length_map, List.length_range]; omega
theorem pieces_are {n : Nat} {e : Str} {t : Tok} {k : Nat} {ys : List Value} (he : e = Str.empty) (hk : k = n % 4) (hy : StrsAre ys (namesOf n)) : StrsAre (List.replicate k (.str e t) ++ ys) (piecesOf n) := by
  subst he; subst hk
  exact strs_app (strs_rep _ _ _) hy
end Mine
end

section
open PySem PySem.W PyProof.Rows
namespace Mine
theorem words_ok : ∀ c ∈ words5, ((tl c ≠ [] ∧ 47 ∉ tl c) ∧ c ≠ Str.ofString "." ∧ c ≠ Str.ofString "..") ∧ (∀ x ∈ tl c, x ≠ 46 ∧ x ≠ 58 ∧ x ≠ 10) ∧ c.length ≤ 3 := by decide +kernel
theorem words_plain {c : Str} (h : c ∈ words5) : Plain c := (words_ok c h).1
theorem words_bare {c : Str} (h : c ∈ words5) : Bare c := (words_ok c h).2.1
theorem words_len {c : Str} (h : c ∈ words5) : c.length ≤ 3 := (words_ok c h).2.2
theorem word_in {k : Nat} (h : k < 5) : word k ∈ words5 := by
  unfold word
  have h5 : k < words5.length := h
  rw [List.getD_eq_getElem?_getD, List.getElem?_eq_getElem h5]
  exact List.getElem_mem h5
theorem names_in {n : Nat} {c : Str} (h : c ∈ namesOf n) : c ∈ words5 := by
  unfold namesOf at h
  obtain ⟨i, _, rfl⟩ := List.mem_map.mp h
  exact word_in (Nat.mod_lt _ (by decide))
theorem pieces_in {n : Nat} {p : Str} (h : p ∈ piecesOf n) : p = Str.empty ∨ p ∈ words5 := by
  unfold piecesOf at h
  rcases List.mem_append.mp h with h | h
  · exact .inl (List.eq_of_mem_replicate h)
  · exact .inr (names_in h)
theorem bare_empty : Bare Str.empty := fun c h => nomatch h
theorem pieces_bare {n : Nat} : ∀ p ∈ piecesOf n, Bare p := fun p h => by
  rcases pieces_in h with rfl | h
  · exact bare_empty
  · exact words_bare h
theorem pieces_part {n : Nat} : ∀ p ∈ piecesOf n, PlainPart p := fun p h => by
  rcases pieces_in h with rfl | h
  · exact .inl rfl
  · exact .inr (words_plain h)
theorem weight_reps (k : Nat) : weight (List.replicate k Str.empty) = k := by
  induction k with
  | zero => rfl
  | succ k ih =>
    rw [List.replicate_succ, weight_cons, ih]
    show 0 + 1 + k = k + 1
    omega
theorem weight_small : ∀ {ys : List Str}, (∀ c ∈ ys, c.length ≤ 3) → weight ys ≤ 4 * ys.length
  | [], _ => by simp [weight]
  | y :: r, h => by
    have h1 := h y (by simp)
    have h2 := weight_small (ys := r) fun c hc => h c (List.mem_cons_of_mem _ hc)
    rw [weight_cons, List.length_cons]
    omega
theorem pieces_weight (n : Nat) : weight (piecesOf n) ≤ 15 := by
  unfold piecesOf
  rw [weight_app, weight_reps]
  have h1 := weight_small (ys := namesOf n) fun c hc => words_len (names_in hc)
  have h2 := names_len n
  omega
theorem pieces_last (n : Nat) : ∃ qs z, piecesOf n = qs ++ [z] ∧ z ∈ words5 := by
  refine ⟨List.replicate (n % 4) Str.empty ++ (List.range (n / 4 % 3)).map (fun i => word (n / 12 / 5 ^ i % 5)), word (n / 12 / 5 ^ (n / 4 % 3) % 5), ?_, word_in (Nat.mod_lt _ (by decide))⟩
  unfold piecesOf namesOf
  rw [Nat.add_comm 1, List.range_succ, List.map_append, List.append_assoc]
  rfl
theorem plain_ne {c : Str} (h : Plain c) : c ≠ Str.empty := fun e => h.1.1 (by rw [e]; rfl)
theorem walk_plain {names ps : List Str} (hn : ∀ c ∈ names, Plain c) (hp : ∀ p ∈ ps, PlainPart p) : ∀ k, ∀ c ∈ walkTo names ps k, Plain c
  | 0 => by
    intro c hc
    unfold walkTo start at hc
    split at hc
    · exact hn c hc
    · exact nomatch hc
  | k + 1 => by
    have ih := walk_plain hn hp k
    intro c hc
    rw [walkTo] at hc
    split at hc
    · rename_i p hpk
      unfold wstep at hc
      split at hc
      · split at hc
        · exact ih c hc
        · exact ih c (List.dropLast_subset _ hc)
      · rename_i hne
        rcases List.mem_append.mp hc with hc | hc
        · exact ih c hc
        · rw [List.mem_singleton.mp hc]
          exact (hp p (List.mem_of_getElem? hpk)).resolve_left hne
    · exact ih c hc
/-- the package where the walk ends -/
def thereOf (names : List Str) (n : Nat) : List Str := walkTo names (piecesOf n) (piecesOf n).length
theorem there_last (names : List Str) (n : Nat) : ∃ td z, thereOf names n = td ++ [z] := by
  obtain ⟨qs, z, e, hz⟩ := pieces_last n
  refine ⟨walkTo names (piecesOf n) qs.length, z, ?_⟩
  unfold thereOf
  have hl : (piecesOf n).length = qs.length + 1 := by rw [e]; simp
  have hg : (piecesOf n)[qs.length]? = some z := by rw [e]; simp
  rw [hl, walk_step hg]
  unfold wstep
  rw [if_neg (plain_ne (words_plain hz))]
theorem there_plain {names : List Str} {n : Nat} (hn : ∀ c ∈ names, Plain c) : ∀ c ∈ thereOf names n, Plain c := walk_plain hn pieces_part _
theorem there_weight (names : List Str) (n : Nat) : weight (thereOf names n) ≤ weight names + 15 := by
  have h1 := walk_weight names (piecesOf n) (piecesOf n).length
  have h2 := pieces_weight n
  rw [List.take_length] at h1
  unfold thereOf
  omega
theorem walk_names {names pre rest : List Str} (h : ∀ p ∈ rest, p ≠ Str.empty) : ∀ j, j ≤ rest.length → walkTo names (pre ++ rest) (pre.length + j) = walkTo names (pre ++ rest) pre.length ++ rest.take j
  | 0, _ => by simp
  | j + 1, hj => by
    have ih := walk_names (names := names) (pre := pre) h j (by omega)
    have hg : rest[j]? = some rest[j] := List.getElem?_eq_getElem (by omega)
    have hg2 : (pre ++ rest)[pre.length + j]? = some rest[j] := by rw [List.getElem?_append_right (by omega)]; simpa using hg
    rw [← Nat.add_assoc, walk_step hg2, ih]
    unfold wstep
    rw [if_neg (h _ (List.getElem_mem (by omega))), List.take_add_one, hg, List.append_assoc]
    rfl
theorem walk_ups {names rest : List Str} {j : Nat} : ∀ i, i ≤ j → walkTo names (List.replicate (j + 1) Str.empty ++ rest) (i + 1) = names.take (names.length - i)
  | 0, _ => by
    have hg : (List.replicate (j + 1) Str.empty ++ rest)[0]? = some Str.empty := by simp [List.replicate_succ]
    rw [walk_step hg]
    unfold wstep walkTo start
    simp [List.replicate_succ]
  | i + 1, hi => by
    have ih := walk_ups (names := names) (rest := rest) (j := j) i (by omega)
    have hg : (List.replicate (j + 1) Str.empty ++ rest)[i + 1]? = some Str.empty := by
      rw [List.getElem?_append_left (by simp; omega), List.getElem?_replicate, if_pos (by omega)]
    rw [walk_step hg, ih]
    unfold wstep
    rw [if_pos rfl, if_neg (by omega), List.dropLast_eq_take, List.take_take, List.length_take]
    congr 1
    omega
/-- the short name's pieces -/
def shortOf (names th : List Str) : List Str := List.replicate (names.length - alikeN names th + 1) Str.empty ++ th.drop (alikeN names th)
theorem alike_le (names th : List Str) : alikeN names th ≤ names.length ∧ alikeN names th ≤ th.length - 1 := by
  have := lcp_le names th.dropLast
  rw [List.length_dropLast] at this
  exact this
theorem short_walk {names th : List Str} (hn : ∀ c ∈ names, Plain c) (ht : ∀ c ∈ th, Plain c) : walkTo names (shortOf names th) (shortOf names th).length = th := by
  have ha := alike_le names th
  have hr : ∀ p ∈ th.drop (alikeN names th), p ≠ Str.empty := fun p hp => plain_ne (ht p (List.mem_of_mem_drop hp))
  have h1 := walk_names (names := names) (pre := List.replicate (names.length - alikeN names th + 1) Str.empty) hr _ (Nat.le_refl _)
  have h2 := walk_ups (names := names) (rest := th.drop (alikeN names th)) (j := names.length - alikeN names th) _ (Nat.le_refl _)
  rw [List.length_replicate] at h1
  unfold shortOf
  rw [List.length_append, List.length_replicate, h1, h2, List.take_length]
  have h3 : names.length - (names.length - alikeN names th) = alikeN names th := by omega
  rw [h3]
  have h4 : names.take (alikeN names th) = th.take (alikeN names th) := by
    have e1 := lcp_left names th.dropLast
    have e2 := lcp_right names th.dropLast
    have e3 : th.dropLast.take (alikeN names th) = th.take (alikeN names th) := by
      rw [List.dropLast_eq_take, List.take_take, Nat.min_eq_left ha.2]
    unfold alikeN at e3 ⊢
    rw [e1, ← e3, e2]
  rw [h4, List.take_append_drop]
theorem join_reps {rest : List Str} (hr : rest ≠ []) : ∀ k : Nat, tl (Str.join (one 46) (List.replicate k Str.empty ++ rest)) = List.replicate k 46 ++ tl (Str.join (one 46) rest)
  | 0 => by simp
  | k + 1 => by
    have ih := join_reps hr k
    have hne : List.replicate k Str.empty ++ rest ≠ [] := by simp [hr]
    rw [List.replicate_succ, List.cons_append, join_cons _ _ hne, tl_app, tl_app, ih, List.replicate_succ]
    rfl
theorem short_join {names th : List Str} (hne : th ≠ []) : toldT names th = Str.join (one 46) (shortOf names th) := by
  have ha := alike_le names th
  have hl : 0 < th.length := List.length_pos_iff.mpr hne
  have hd : th.drop (alikeN names th) ≠ [] := by
    intro e
    have := congrArg List.length e
    rw [List.length_drop, List.length_nil] at this
    omega
  apply str_ext
  unfold toldT shortOf
  rw [tl_app, join_reps hd]
  congr 1
  have e : tl (Txt.mul (one 46) ((names.length : Int) - (alikeN names th : Int) + 1)) = List.replicate ((names.length : Int) - (alikeN names th : Int) + 1).toNat 46 := mul_one_list 46 _
  rw [e]
  congr 1
  omega
theorem short_ne {names th : List Str} : shortOf names th ≠ [] := by
  unfold shortOf
  rw [List.replicate_succ]
  simp
theorem short_in {names th : List Str} {p : Str} (h : p ∈ shortOf names th) : p = Str.empty ∨ p ∈ th := by
  unfold shortOf at h
  rcases List.mem_append.mp h with h | h
  · exact .inl (List.eq_of_mem_replicate h)
  · exact .inr (List.mem_of_mem_drop h)
theorem short_weight (names th : List Str) : weight (shortOf names th) ≤ names.length + 1 + weight th := by
  unfold shortOf
  rw [weight_app, weight_reps]
  have := weight_drop (alikeN names th) th
  omega
theorem full_walk {names th : List Str} (hne : th ≠ []) (ht : ∀ c ∈ th, Plain c) : walkTo names th th.length = th := by
  have h1 := walk_names (names := names) (pre := []) (rest := th) (fun p hp => plain_ne (ht p hp)) _ (Nat.le_refl _)
  simp only [List.nil_append, List.length_nil, Nat.zero_add, List.take_length] at h1
  rw [h1]
  have h2 : walkTo names th 0 = [] := by
    unfold walkTo start
    cases th with
    | nil => exact absurd rfl hne
    | cons c r =>
      rw [if_neg]
      exact plain_ne (ht c (by simp))
  rw [h2, List.nil_append]
theorem walk_in {P : Str → Prop} {names ps : List Str} (hn : ∀ c ∈ names, P c) (hp : ∀ p ∈ ps, p = Str.empty ∨ P p) : ∀ k, ∀ c ∈ walkTo names ps k, P c
  | 0 => by
    intro c hc
    unfold walkTo start at hc
    split at hc
    · exact hn c hc
    · exact nomatch hc
  | k + 1 => by
    have ih := walk_in hn hp k
    intro c hc
    rw [walkTo] at hc
    split at hc
    · rename_i p hpk
      unfold wstep at hc
      split at hc
      · split at hc
        · exact ih c hc
        · exact ih c (List.dropLast_subset _ hc)
      · rename_i hne
        rcases List.mem_append.mp hc with hc | hc
        · exact ih c hc
        · rw [List.mem_singleton.mp hc]
          exact (hp p (List.mem_of_getElem? hpk)).resolve_left hne
    · exact ih c hc
theorem there_in {names : List Str} {n : Nat} (hn : ∀ c ∈ names, c ∈ words5) : ∀ c ∈ thereOf names n, c ∈ words5 := walk_in hn (fun _ h => pieces_in h) _
/-- the words behind the name -/
def details4 : List Str := [Str.ofString "", Str.ofString ": no.such", Str.ofString "\n:a.b", Str.ofString ":"]
def detail (k : Nat) : Str := details4.getD k Str.empty
theorem detail_of (k : Nat) : Detail (detail k) ∧ (detail k).length ≤ 100 := by
  have h0 : Detail (Str.ofString "") ∧ (Str.ofString "").length ≤ 100 := ⟨.inl (by decide +kernel), by decide +kernel⟩
  have h1 : Detail (Str.ofString ": no.such") ∧ (Str.ofString ": no.such").length ≤ 100 := ⟨.inr ⟨[32, 110, 111, 46, 115, 117, 99, 104], .inr (by decide +kernel)⟩, by decide +kernel⟩
  have h2 : Detail (Str.ofString "\n:a.b") ∧ (Str.ofString "\n:a.b").length ≤ 100 := ⟨.inr ⟨[58, 97, 46, 98], .inl (by decide +kernel)⟩, by decide +kernel⟩
  have h3 : Detail (Str.ofString ":") ∧ (Str.ofString ":").length ≤ 100 := ⟨.inr ⟨[], .inr (by decide +kernel)⟩, by decide +kernel⟩
  have he : Detail Str.empty ∧ Str.empty.length ≤ 100 := ⟨.inl rfl, Nat.zero_le _⟩
  unfold detail
  rw [List.getD_eq_getElem?_getD]
  match k with
  | 0 => exact h0
  | 1 => exact h1
  | 2 => exact h2
  | 3 => exact h3
  | k + 4 =>
    have e : details4[k + 4]? = none := List.getElem?_eq_none_iff.mpr (by show 4 ≤ k + 4; omega)
    rw [e]
    exact he
theorem details_are (t1 t2 t3 t4 : Tok) : StrsAre [.str (Str.ofString "") t1, .str (Str.ofString ": no.such") t2, .str (Str.ofString "\n:a.b") t3, .str (Str.ofString ":") t4] details4 :=
  .cons _ _ (.cons _ _ (.cons _ _ (.cons _ _ .nil)))
theorem four (x : Int) : 0 ≤ x.fmod 4 ∧ x.fmod 4 < 4 := ⟨Int.fmod_nonneg_of_pos _ (by decide), Int.fmod_lt_of_pos _ (by decide)⟩
section
variable {prog : Program} {w : World} {A : Around} {E : Value → Shared → Prop} {s : Shared} {h₀ : Heap} {L : Addr} {m : Str → Option Value} {news : List (Addr × Obj)}
theorem item_detail {a : Addr} {value slice : Expr} {x : Int} {u t1 t2 t3 t4 : Tok} {c : Nat} {Q : Value → Shared → Prop} (N : News h₀ L s.heap news)
    (hm : (a, ({ cls := .type "tuple", data := .seq #[.str (Str.ofString "") t1, .str (Str.ofString ": no.such") t2, .str (Str.ofString "\n:a.b") t3, .str (Str.ofString ":") t4] c } : Obj)) ∈ news)
    (h : ∀ t' d, Detail d → d.length ≤ 100 → Q (.str d t') s)
    (hs : subscripted slice false (.ref a) (.int (x.fmod 4) u) = operate [.ref a, .int (x.fmod 4) u] (getItem (.ref a) (.int (x.fmod 4) u))) :
    wpAny (model prog w) A (subscriptTail value slice (.ref a) (.int (x.fmod 4) u)) Q E s := by
  obtain ⟨f0, f1⟩ := four x
  have hl : (x.fmod 4).toNat < details4.length := by show _ < 4; omega
  obtain ⟨t, ht⟩ := (details_are t1 t2 t3 t4).at (List.getElem?_eq_getElem hl)
  have e : details4[(x.fmod 4).toNat] = detail (x.fmod 4).toNat := by
    unfold detail
    rw [List.getD_eq_getElem?_getD, List.getElem?_eq_getElem hl]
    rfl
  rw [e] at ht
  refine item_tupleT (l := [_, _, _, _]) (j := (x.fmod 4).toNat) ⟨_, (N _ hm).1, rfl, _, rfl⟩ (by omega) (by omega) ?_ ht (h t _ (detail_of _).1 (detail_of _).2) hs
  exact StrLaws.seqIndex_nonneg f0 f1
/-- two lists of the same texts are not unlike -/
theorem ne_lists {l b : Addr} {us vs : Array Value} {n n2 : Nat} {xs : List Str} {Q : Value → Shared → Prop} (N : News h₀ L s.heap news) (hl : (l, listOf us n) ∈ news) (hb : (b, listOf vs n2) ∈ news) (hx : StrsAre us.toList xs) (hy : StrsAre vs.toList xs) (hu : A.units < cLine)
    (h : Q (.bool false) s) : wpAny (model prog w) A (compareOp .NotEq (.ref l) (.ref b)) Q E s := by
  have h1 := size_strs hx
  have h2 := size_strs hy
  refine richCompare_meets_room (op := .NotEq) (T := "list") ⟨_, (N _ hl).1, rfl⟩ ⟨_, (N _ hb).1, rfl⟩ F.slot_list_ne F.entry_list_ne (F.args_list_ne_2 _ _)
    (SeqAt.list_neAt l b us vs n n2 none none #[] #[] (by omega) fun _ => true) ⟨(N _ hl).1, (N _ hb).1, ?_, ?_⟩ hu
  · intro j j1 j2 prog w E Q hq
    have q1 : us.toList[j]? = some us[j] := by simp [j1]
    have q2 : vs.toList[j]? = some vs[j] := by simp [j2]
    obtain ⟨x, tx, ex, gx⟩ := StrsAre.item hx _ _ q1
    obtain ⟨y, ty, ey, gy⟩ := StrsAre.item hy _ _ q2
    rw [gx] at gy
    have e : x = y := Option.some.inj gy
    rw [ex, ey, e]
    exact eqBool_str (by rw [beq_self_eq_true]; exact hq)
  · refine ⟨by simp, ?_⟩
    have e : (!(List.range us.size).all fun _ => true) = false := by simp
    rw [e]
    exact h
theorem ne_texts {x y : Str} {t u : Tok} {Q : Value → Shared → Prop} (e : x = y) (h : Q (.bool false) s) : wpAny (model prog w) A (compareOp .NotEq (.str x t) (.str y u)) Q E s := by
  refine PyProof.Rows.ne_str ?_
  rw [e, bne_self_eq_false]
  exact h
end
end Mine
end

section
open PySem PySem.W PyProof.Rows
namespace Mine
set_option maxRecDepth 100000
set_option maxHeartbeats 8000000


local macro_rules | `(tactic| walk_at "call builtin:str.find") => `(tactic| ((with_reducible show wpAny _ _ (call (Value.builtin "str.find") [Value.str _ _, Value.str _ _, Value.int _ _, Value.int _ _]) _ _ _); refine Stop.here ?_))
local macro_rules | `(tactic| walk_at "call builtin:str.rfind") => `(tactic| ((with_reducible show wpAny _ _ (call (Value.builtin "str.rfind") [Value.str _ _, Value.str _ _, Value.int _ _, Value.int _ _]) _ _ _); refine Stop.here ?_))
theorem spec_strip (w : World) (ps : List Str) (n d : Str) (t : Tok) (hb : ∀ p ∈ ps ++ [n], Bare p) (hd : Detail d) (hx : (Str.join (one 46) (ps ++ [n]) ++ d).length ≤ 4096) :
    Spec w 28 [.str (Str.join (one 46) (ps ++ [n]) ++ d) t] 1 8 (fun _ => True) (RetStr n) := by
  have hxx : Str.join (one 46) (ps ++ [n]) ++ d = Str.join (one 46) (ps ++ [n]) ++ d := rfl
  have hn : 46 ∉ tl n := fun h => (hb n (by simp) _ h).1 rfl
  have hp : ∀ c ∈ tl (Str.join (one 46) (ps ++ [n])), c ≠ 58 ∧ c ≠ 10 := fun c hc => by
    rcases join_mem _ _ _ hc with h | ⟨p, hp, h⟩
    · rw [tl_one, List.mem_singleton] at h; subst h; decide
    · exact (hb p hp c h).2
  have hall := @strip_all _ _ _ hxx hp hd ps n rfl hn
  generalize hg : Str.join (one 46) (ps ++ [n]) ++ d = x at *
  generalize Str.join (one 46) (ps ++ [n]) = p at *
  clear hb hp hxx hg
  w_top off
  ((have fk := kfill); revert fk; k_fill; intro fk; clear fk)
  refine' enter [("msg", .str x t)] ?ho ?hcd ?hbind ?hloc ?_ ?h1 ?h2 ?h3 ?h4 ?h5
  ((case ho => k_is); (case hcd => k_is); (case hbind => intro s; exact BindsTo.of_eq (by with_unfolding_all rfl)); (case hloc => exact locs (by with_unfolding_all rfl)); (case h1 => decide); (case h2 => rfl); (case h3 => rfl); (case h4 => rfl); (case h5 => decide))
  intro dp outer gd un base h₀ s L mean mg mb B X T hdp hun _ F N
  simp only [lit_nl, lit_colon, lit_dot]
  k_fold
  k_steps
  repeat (any_goals ((with_reducible refine Stop.on ?_); (first | ((with_reducible show wpAny _ _ (call (Value.builtin "str.rfind") [Value.str _ _, Value.str _ _, Value.int _ _, Value.int _ _]) _ _ _); refine call_rfind4 (by omega) ?_) | ((with_reducible show wpAny _ _ (call (Value.builtin "str.find") [Value.str _ _, Value.str _ _, Value.int _ _, Value.int _ _]) _ _ _); refine call_find4 (by omega) ?_)); k_steps))
  all_goals (refine Back.ret (by assumption) ⟨_, congrArg (Value.str · _) ?_⟩)
  all_goals exact hall (by assumption) (by first | exact .inl ⟨by assumption, rfl⟩ | exact .inr ⟨by assumption, rfl⟩) (by first | exact .inl ⟨by assumption, rfl⟩ | exact .inr ⟨by assumption, rfl⟩)
end Mine
end

section
open PySem PySem.W PyProof.Rows
namespace Mine
set_option maxRecDepth 100000
set_option maxHeartbeats 8000000


local macro_rules | `(tactic| walk_at "call ref") => `(tactic| (refine Stop.here ?_))

theorem spec_dirname (w : World) (ds : List Str) (n : Str) (t : Tok) (hc : ∀ c ∈ ds ++ [n], Comp c) (hx : (PP (ds ++ [n])).length ≤ 4096) :
    Spec w 143 [.str (PP (ds ++ [n])) t] 2 16 (fun _ => True) (RetStr (PP ds)) := by
  have hn : 47 ∉ tl n := (hc n (by simp)).2
  have hd : ∀ c ∈ ds, Comp c := fun c h => hc c (by simp [h])
  have h1 := head_at (AA ds) n hn
  have h2 := dir_strip hd
  have h3 := dir_same hd
  have h4 := dir_ne ds
  rw [← PP_snoc] at h1
  rw [← h1] at h2 h3 h4
  generalize PP (ds ++ [n]) = x at *
  clear hc hn hd h1
  w_top off
  ((have fk := kfill); revert fk; k_fill; intro fk; clear fk)
  refine' enter [("p", .str x t)] ?ho ?hcd ?hbind ?hloc ?_ ?h1 ?h2 ?h3 ?h4 ?h5
  ((case ho => k_is); (case hcd => k_is); (case hbind => intro s; exact BindsTo.of_eq (by with_unfolding_all rfl)); (case hloc => exact locs (by with_unfolding_all rfl)); (case h1 => decide); (case h2 => rfl); (case h3 => rfl); (case h4 => rfl); (case h5 => decide))
  intro dp outer gd un base h₀ s L mean mg mb B X T hdp hun _ F N
  k_fold
  k_steps
  repeat (any_goals ((with_reducible refine Stop.on ?_); (first | ((with_reducible show wpAny _ _ (call (Value.ref 115) [Value.str _ _]) _ _ _); refine' Spec.useS (spec_getsep _ _ _) (by assumption) (by assumption) (by assumption) (by assumption) (by assumption) trivial rfl (by omega) (by omega) ?_; intro t' h' tk' F' N'; (try k_sweep)) | ((with_reducible show wpAny _ _ (call (Value.ref 101) [Value.str _ _]) _ _ _); refine' Spec.useV (spec_fspath _ _ _) (by assumption) (by assumption) (by assumption) (by assumption) (by assumption) trivial rfl (by omega) (by omega) ?_; intro h' tk' F' N'; (try k_sweep))); k_steps))
  all_goals (refine Back.ret (by assumption) ⟨_, congrArg (Value.str · _) ?_⟩)
  all_goals first | exact h2 (by assumption) | exact h3 (by assumption) | (exfalso; omega)
theorem spec_split (w : World) (ds : List Str) (n : Str) (t : Tok) (hc : ∀ c ∈ ds ++ [n], Comp c) (hx : (PP (ds ++ [n])).length ≤ 4096) :
    Spec w 129 [.str (PP (ds ++ [n])) t] 2 16 (fun _ => True) (RetPair (PP ds) n) := by
  have hn : 47 ∉ tl n := (hc n (by simp)).2
  have hd : ∀ c ∈ ds, Comp c := fun c h => hc c (by simp [h])
  have h1 := head_at (AA ds) n hn
  have h2 := dir_strip hd
  have h3 := dir_same hd
  have h4 := dir_ne ds
  have h5 := tail_at (AA ds) n hn
  rw [← PP_snoc] at h1 h5
  rw [← h1] at h2 h3 h4
  generalize PP (ds ++ [n]) = x at *
  clear hc hn hd h1
  w_top off
  ((have fk := kfill); revert fk; k_fill; intro fk; clear fk)
  refine' enter [("p", .str x t)] ?ho ?hcd ?hbind ?hloc ?_ ?h1 ?h2 ?h3 ?h4 ?h5
  ((case ho => k_is); (case hcd => k_is); (case hbind => intro s; exact BindsTo.of_eq (by with_unfolding_all rfl)); (case hloc => exact locs (by with_unfolding_all rfl)); (case h1 => decide); (case h2 => rfl); (case h3 => rfl); (case h4 => rfl); (case h5 => decide))
  intro dp outer gd un base h₀ s L mean mg mb B X T hdp hun _ F N
  k_fold
  k_steps
  repeat (any_goals ((with_reducible refine Stop.on ?_); (first | ((with_reducible show wpAny _ _ (call (Value.ref 115) [Value.str _ _]) _ _ _); refine' Spec.useS (spec_getsep _ _ _) (by assumption) (by assumption) (by assumption) (by assumption) (by assumption) trivial rfl (by omega) (by omega) ?_; intro t' h' tk' F' N'; (try k_sweep)) | ((with_reducible show wpAny _ _ (call (Value.ref 101) [Value.str _ _]) _ _ _); refine' Spec.useV (spec_fspath _ _ _) (by assumption) (by assumption) (by assumption) (by assumption) (by assumption) trivial rfl (by omega) (by omega) ?_; intro h' tk' F' N'; (try k_sweep))); k_steps))
  all_goals (refine Back.retN (by assumption) (by assumption) (fun N9 => retPair_of N9 ?_ h5))
  all_goals first | exact h2 (by assumption) | exact h3 (by assumption) | (exfalso; omega)
end Mine
end

section
open PySem PySem.W PyProof.Rows
namespace Mine
set_option maxRecDepth 100000
set_option maxHeartbeats 8000000


local macro_rules | `(tactic| walk_at "mine pad") => `(tactic| skip)
local macro_rules | `(tactic| walk_at "call ref") => `(tactic| (refine Stop.here ?_))

theorem spec_join (w : World) (cs : List Str) (b : Str) (t u : Tok) (hc : ∀ c ∈ cs, Comp c) (hb : Comp b) (hx : (PP cs).length ≤ 4096) (hy : b.length ≤ 4096) :
    Spec w 122 [.str (PP cs) t, .str b u] 2 16 (fun _ => True) (RetStr (PP (cs ++ [b]))) := by
  have h1 := starts_not hb
  have h2 := @join_root cs b hc
  have h3 := @join_more cs b
  have h4 := PP_pos cs
  have h6 : (one 47).length = 1 := rfl
  generalize PP (cs ++ [b]) = y at *
  generalize PP cs = x at *
  clear hc hb
  w_top off
  ((have fk := kfill); revert fk; k_fill; intro fk; clear fk)
  refine' enterRest (vs := [.str b u]) (fun v => [("a", .str x t), ("p", v)]) ?ho ?hcd ?hbind ?hvs ?hloc ?_ ?h1 ?h2 ?h3 ?h4 ?h5
  ((case ho => k_is); (case hcd => k_is); (case hbind => with_unfolding_all rfl); (case hvs => exact Nat.le_of_ble_eq_true rfl); (case hloc => exact fun _ => locs (by with_unfolding_all rfl)); (case h1 => decide); (case h2 => rfl); (case h3 => rfl); (case h4 => rfl); (case h5 => decide))
  intro dp outer gd un base h₀ s L D mean mg mb B X T hdp hun _ F N
  k_fold
  k_steps
  repeat (any_goals ((with_reducible refine Stop.on ?_); (first | ((with_reducible show wpAny _ _ (call (Value.ref 115) [Value.str _ _]) _ _ _); refine' Spec.useS (spec_getsep _ _ _) (by assumption) (by assumption) (by assumption) (by assumption) (by assumption) trivial rfl (by omega) (by omega) ?_; intro t' h' tk' F' N'; (try k_sweep)) | ((with_reducible show wpAny _ _ (call (Value.ref 101) [Value.str _ _]) _ _ _); refine' Spec.useV (spec_fspath _ _ _) (by assumption) (by assumption) (by assumption) (by assumption) (by assumption) trivial rfl (by omega) (by omega) ?_; intro h' tk' F' N'; (try k_sweep))); k_steps))
  all_goals (try dsimp only)
  all_goals (first | (refine Back.ret (by assumption) ⟨_, congrArg (Value.str · _) ?_⟩) | (trace "BAD"; trace_state))
  all_goals first | exact h2 (by assumption) | exact h3 (by assumption) | (exfalso; omega) | skip
  all_goals trace_state
end Mine
end

section
open PySem PySem.W PyProof.Rows
namespace Mine
set_option maxRecDepth 100000
set_option maxHeartbeats 8000000


local macro_rules | `(tactic| walk_at "call ref") => `(tactic| (refine Stop.here ?_))
theorem spec_splitroot (w : World) (cs : List Str) (t : Tok) (hc : ∀ c ∈ cs, Comp c) (hx : (PP cs).length ≤ 4096) :
    Spec w 136 [.str (PP cs) t] 2 16 (fun _ => True) (RetTri Str.empty (one 47) (Str.join (one 47) cs)) := by
  have h1 := sr1 cs
  have h2 := sr2 hc
  have h3 := sr3 cs
  have lite : Str.ofString "" = Str.empty := by decide +kernel
  generalize PP cs = x at *
  have hA : (Txt.slice x none (some 1) != one 47) = true → False := by rw [h1]; simp
  have hB : (Txt.slice x (some 1) (some 2) != one 47) = false → False := by simpa using h2
  clear hc h1 h2
  w_top off
  ((have fk := kfill); revert fk; k_fill; intro fk; clear fk)
  refine' enter [("p", .str x t)] ?ho ?hcd ?hbind ?hloc ?_ ?h1 ?h2 ?h3 ?h4 ?h5
  ((case ho => k_is); (case hcd => k_is); (case hbind => intro s; exact BindsTo.of_eq (by with_unfolding_all rfl)); (case hloc => exact locs (by with_unfolding_all rfl)); (case h1 => decide); (case h2 => rfl); (case h3 => rfl); (case h4 => rfl); (case h5 => decide))
  intro dp outer gd un base h₀ s L mean mg mb B X T hdp hun _ F N
  simp only [lit_slash]
  k_fold
  k_steps
  repeat (any_goals ((with_reducible refine Stop.on ?_); (first | ((with_reducible show wpAny _ _ (call (Value.ref 101) [Value.str _ _]) _ _ _); refine' Spec.useV (spec_fspath _ _ _) (by assumption) (by assumption) (by assumption) (by assumption) (by assumption) trivial rfl (by omega) (by omega) ?_; intro h' tk' F' N'; (try k_sweep))); k_steps))
  all_goals (try dsimp only)
  all_goals first | exact (hA (by assumption)).elim | exact (hB (by assumption)).elim | exact Back.retN (by assumption) (by assumption) (fun N9 => retTri_of N9 lite rfl h3)

local macro_rules | `(tactic| walk_at "exec For Name Name cons nil") => `(tactic| refine Stop.here ?_)
local macro_rules | `(tactic| walk_at "call builtin:str.split") => `(tactic| ((with_reducible show wpAny _ _ (call (Value.builtin "str.split") [Value.str _ _, Value.str _ _]) _ _ _); refine' split_strs ?F ?N ?e ?y ?z ?_; (case F => assumption); (case N => assumption); (case e => assumption); (case y => exact rfl); (case z => omega); intro D' vs' h' k' hS' l1 F' N'; (try k_lt l1); (try k_sweep))) -- keep
local macro_rules | `(tactic| walk_at "truthy ref") => `(tactic| (refine Stop.here ?_))
local macro_rules | `(tactic| walk_at "call builtin:list.pop") => `(tactic| (refine Stop.here ?_))
local macro_rules | `(tactic| walk_at "call builtin:list.append") => `(tactic| (refine Stop.here ?_))
local macro_rules | `(tactic| walk_at "subscriptTail Name UnaryOp ref int") => `(tactic| (refine Stop.here ?_))
local macro_rules | `(tactic| walk_at "call builtin:str.join") => `(tactic| (refine Stop.here ?_))
theorem spec_normpath (w : World) (cs : List Str) (t : Tok) (hc : ∀ c ∈ cs, Comp c) (hx : (PP cs).length ≤ 4096) :
    Spec w 150 [.str (PP cs) t] 3 24 (fun _ => True) (RetStr (PP (norm cs))) := by
  have h4 := PP_pos cs
  have hsp := parts_split hc
  have hjl := join_le_PP cs
  w_top off
  ((have fk := kfill); revert fk; k_fill; intro fk; clear fk)
  refine' enter [("path", .str (PP cs) t)] ?ho ?hcd ?hbind ?hloc ?_ ?h1 ?h2 ?h3 ?h4 ?h5
  ((case ho => k_is); (case hcd => k_is); (case hbind => intro s; exact BindsTo.of_eq (by with_unfolding_all rfl)); (case hloc => exact locs (by with_unfolding_all rfl)); (case h1 => decide); (case h2 => rfl); (case h3 => rfl); (case h4 => rfl); (case h5 => decide))
  intro dp outer gd un base h₀ s L mean mg mb B X T hdp hun _ F N
  simp only [lit_slash]
  k_fold
  k_steps
  repeat (any_goals ((with_reducible refine Stop.on ?_); (first | ((with_reducible show wpAny _ _ (call (Value.builtin "str.join") _) _ _ _); refine' join_strs (by exact News.isList (by assumption) (by k_mem)) (by assumption) (by decide) (by omega) ?_; intro t' k') | ((with_reducible show wpAny _ _ (subscriptTail _ _ (Value.ref _) (Value.int _ _)) _ _ _); refine' item_last (by exact News.isList (by assumption) (by k_mem)) (by assumption) (by assumption) ?_ (by with_unfolding_all rfl); intro t' hne') | ((with_reducible show wpAny _ _ (call (Value.builtin "list.append") _) _ _ _); refine' append_K (by assumption) (by assumption) (by exact Upd.head (OwnOff.ne (by assumption) (.head _))) ?_ (by rw [size_strs (by assumption)]; exact Nat.le_trans (by assumption) (by decide)); intro h' F' N'; (try k_sweep)) | ((with_reducible show wpAny _ _ (call (Value.builtin "list.pop") _) _ _ _); refine' pop_strs (by assumption) (by assumption) (by assumption) (by assumption) (by omega) (by exact Upd.head (OwnOff.ne (by assumption) (.head _))) ?_; intro v' h' F' N'; (try k_sweep)) | ((with_reducible show wpAny _ _ (truthy (Value.ref _)) _ _ _); refine' truthy_strs (by exact News.isList (by assumption) (by k_mem)) (by assumption) (by omega) ?_; intro k') | ((with_reducible show wpAny _ _ (call (Value.ref 136) [Value.str (PP _) _]) _ _ _); refine' Spec.useT (spec_splitroot _ _ _ (by assumption) (by assumption)) (by assumption) (by assumption) (by assumption) (by assumption) (by assumption) trivial rfl (by omega) (by omega) ?_; intro l' t' u' r' h' tk' F' N' l1; (try k_sweep)) | ((with_reducible show wpAny _ _ (call (Value.ref 101) [Value.str _ _]) _ _ _); refine' Spec.useV (spec_fspath _ _ _) (by assumption) (by assumption) (by assumption) (by assumption) (by assumption) trivial rfl (by omega) (by omega) ?_; intro h' tk' F' N'; (try k_sweep))); k_steps))
  all_goals (try dsimp only)
  · rename_i D vs _ _ hS hlt _ l _ hlt2 hh F1 N1
    refine Stop.on ?_
    refine For_invVF F1 rfl rfl ?_ (hE := fun _ _ h => h.elim)
    k_fold
    walk1
    have hw := parts_weight cs
    have hsz := size_strs hS
    refine loopList (α := Array Value × Nat) (vs := vs.toList) (fun _ => []) (fun a => [(l, listOf a.1 a.2)]) (fun i a => StrsAre a.1.toList (((parts cs).take i).foldl stepN [])) [] (#[], 0) rfl (by simpa using News.isList N1 (by k_mem)) (N1 (D, listOf vs 0) (by k_mem)).2.1 F1 N1 (fun _ h => nomatch h) .nil ?turn ?done
    case turn =>
      rintro i v ⟨us, n⟩ u I h tk own hv hR hoff hown hIo F2 N2 hrest
      change Fr h₀ L _ _ at F2
      change News h₀ L _ _ at N2
      obtain ⟨y, ty, rfl, hy⟩ := StrsAre.item hS i v hv
      have hdd := foldN_dots ((parts cs).take i) [] (fun _ h => nomatch h)
      have hwt := foldN_weight ((parts cs).take i) []
      have hwt2 := weight_take i (parts cs)
      have hst := take_step stepN [] hy
      have hyl := weight_get hy
      replace hyl : y.length ≤ 4096 := by omega
      have off : OwnOff own [l] := by
        intro p hp b hb e
        rw [List.mem_singleton.mp hb] at e
        rcases hown p hp with h1 | h1
        · simp only [List.mem_cons, List.not_mem_nil, or_false] at h1
          rcases h1 with h1 | h1
          · exact hoff (l, listOf us n) (by simp) (by rw [← h1, e]; simp)
          · exact absurd (h1.symm.trans e) (neN (by omega))
        · simp only [List.mem_cons, List.not_mem_nil, or_false] at h1
          rcases h1 with h1 | h1
          · rw [h1] at e; exact absurd e (neN (by dsimp only; omega))
          · rw [h1] at e; exact absurd e (neN (by dsimp only; omega))
      have hlI : l ∉ [I] := hoff (l, listOf us n) (by simp)
      rw [weight_nil, Nat.zero_add] at hwt
      dsimp only at hR
      generalize ((parts cs).take i).foldl stepN [] = acc at *
      have hal := weight_len acc
      replace hal : acc.length ≤ 4096 := by omega
      clear hwt hwt2 hrest hw
      simp only [List.cons_append, List.nil_append] at N2
      dsimp only [kstB] at F2
      clear hv hoff hown hfact htie hS hsz hlt hlt2 N1 F1
      show wpAny _ _ _ _ _ _
      k_fold
      k_steps
      repeat (any_goals ((with_reducible refine Stop.on ?_); (first | ((with_reducible show wpAny _ _ (call (Value.builtin "str.join") _) _ _ _); refine' join_strs (by exact News.isList (by assumption) (by k_mem)) (by assumption) (by decide) (by omega) ?_; intro t' k') | ((with_reducible show wpAny _ _ (subscriptTail _ _ (Value.ref _) (Value.int _ _)) _ _ _); refine' item_last (by exact News.isList (by assumption) (by k_mem)) (by assumption) (by assumption) ?_ (by with_unfolding_all rfl); intro t' hne') | ((with_reducible show wpAny _ _ (call (Value.builtin "list.append") _) _ _ _); refine' append_K (by assumption) (by assumption) (by exact Upd.head (OwnOff.ne (by assumption) (.head _))) ?_ (by rw [size_strs (by assumption)]; exact Nat.le_trans (by assumption) (by decide)); intro h' F' N'; (try k_sweep)) | ((with_reducible show wpAny _ _ (call (Value.builtin "list.pop") _) _ _ _); refine' pop_strs (by assumption) (by assumption) (by assumption) (by assumption) (by omega) (by exact Upd.head (OwnOff.ne (by assumption) (.head _))) ?_; intro v' h' F' N'; (try k_sweep)) | ((with_reducible show wpAny _ _ (truthy (Value.ref _)) _ _ _); refine' truthy_strs (by exact News.isList (by assumption) (by k_mem)) (by assumption) (by omega) ?_; intro k') | ((with_reducible show wpAny _ _ (call (Value.ref 136) [Value.str (PP _) _]) _ _ _); refine' Spec.useT (spec_splitroot _ _ _ (by assumption) (by assumption)) (by assumption) (by assumption) (by assumption) (by assumption) (by assumption) trivial rfl (by omega) (by omega) ?_; intro l' t' u' r' h' tk' F' N' l1; (try k_sweep)) | ((with_reducible show wpAny _ _ (call (Value.ref 101) [Value.str _ _]) _ _ _); refine' Spec.useV (spec_fspath _ _ _) (by assumption) (by assumption) (by assumption) (by assumption) (by assumption) trivial rfl (by omega) (by omega) ?_; intro h' tk' F' N'; (try k_sweep))); k_steps))
      all_goals (try dsimp only)
      all_goals first
        | exact (last_no hdd (by assumption) (by assumption)).elim
        | (refine accEnd (by assumption) (by assumption) hlI (fun z h1 _ => ?_) ?_)
      all_goals first
        | (have h2 : z ≠ Str.ofString "comp" := by simpa using h1
           simp only [if_neg h2, List.contains_nil, Bool.false_eq_true, if_false])
        | (rw [hst, step_nil (by assumption)]; exact hR)
        | (rw [hst, step_dot (by assumption)]; exact hR)
        | (rw [hst, step_add (by assumption) (by assumption) (by assumption)]; exact strsAre_push hR)
        | (rw [hst, step_up (by assumption) (by assumption) (by assumption)]; exact strsAre_pop hR)
        | (rw [hst, step_up (by assumption) (by assumption) (by assumption)]; exact strs_nil (by assumption) hR)
    case done =>
      rintro ⟨us, n⟩ u h tk hR F2 N2
      change Fr h₀ L _ _ at F2
      change News h₀ L _ _ at N2
      have hlen : vs.toList.length = (parts cs).length := by simpa using hsz
      dsimp only at hR
      rw [hlen, List.take_length, parts_norm hc] at hR
      have hwn := foldN_weight (parts cs) []
      rw [parts_norm hc, weight_nil, Nat.zero_add] at hwn
      replace hwn : weight (norm cs) ≤ 4096 := by omega
      have hpn := PP_ne (norm cs)
      have hpl := PP_weight (norm cs)
      replace hpl : (PP (norm cs)).length ≤ 4097 := by omega
      have hjn := join_le_PP (norm cs)
      have hol : (one 47).length = 1 := rfl
      have hpp := PP_pos (norm cs)
      have hpd : one 47 ++ Str.join (one 47) (norm cs) = PP (norm cs) := rfl
      dsimp only [kstB] at F2
      clear N1 F1
      show wpAny _ _ _ _ _ _
      k_steps
      repeat (any_goals ((with_reducible refine Stop.on ?_); (first | ((with_reducible show wpAny _ _ (call (Value.builtin "str.join") _) _ _ _); refine' join_strs (by exact News.isList (by assumption) (by k_mem)) (by assumption) (by decide) (by omega) ?_; intro t' k') | ((with_reducible show wpAny _ _ (subscriptTail _ _ (Value.ref _) (Value.int _ _)) _ _ _); refine' item_last (by exact News.isList (by assumption) (by k_mem)) (by assumption) (by assumption) ?_ (by with_unfolding_all rfl); intro t' hne') | ((with_reducible show wpAny _ _ (call (Value.builtin "list.append") _) _ _ _); refine' append_K (by assumption) (by assumption) (by exact Upd.head (OwnOff.ne (by assumption) (.head _))) ?_ (by rw [size_strs (by assumption)]; exact Nat.le_trans (by assumption) (by decide)); intro h' F' N'; (try k_sweep)) | ((with_reducible show wpAny _ _ (call (Value.builtin "list.pop") _) _ _ _); refine' pop_strs (by assumption) (by assumption) (by assumption) (by assumption) (by omega) (by exact Upd.head (OwnOff.ne (by assumption) (.head _))) ?_; intro v' h' F' N'; (try k_sweep)) | ((with_reducible show wpAny _ _ (truthy (Value.ref _)) _ _ _); refine' truthy_strs (by exact News.isList (by assumption) (by k_mem)) (by assumption) (by omega) ?_; intro k') | ((with_reducible show wpAny _ _ (call (Value.ref 136) [Value.str (PP _) _]) _ _ _); refine' Spec.useT (spec_splitroot _ _ _ (by assumption) (by assumption)) (by assumption) (by assumption) (by assumption) (by assumption) (by assumption) trivial rfl (by omega) (by omega) ?_; intro l' t' u' r' h' tk' F' N' l1; (try k_sweep)) | ((with_reducible show wpAny _ _ (call (Value.ref 101) [Value.str _ _]) _ _ _); refine' Spec.useV (spec_fspath _ _ _) (by assumption) (by assumption) (by assumption) (by assumption) (by assumption) trivial rfl (by omega) (by omega) ?_; intro h' tk' F' N'; (try k_sweep))); k_steps))
      all_goals first
        | exact Back.ret (by assumption) ⟨_, rfl⟩
        | (exfalso; rw [hpd] at *; omega)
  · exfalso; omega
end Mine
end

section
open PySem PySem.W PyProof.Rows
namespace Mine
set_option maxRecDepth 100000
set_option maxHeartbeats 8000000
set_option rowWalk.seconds 0


local macro_rules | `(tactic| walk_at "exec For Tuple Call cons nil") => `(tactic| refine Stop.here ?_)
local macro_rules | `(tactic| walk_at "subscriptTail Name Constant ref int") => `(tactic| (refine Stop.here ?_))
local macro_rules | `(tactic| walk_at "call ref") => `(tactic| (refine Stop.here ?_))

theorem spec_led (w : World) (names ps : List Str) (vs : Array Value) (l : Addr) (t : Tok) (hS : StrsAre vs.toList ps) (hc : ∀ c ∈ names, Comp c) (hps : ∀ p ∈ ps, Part p) (hne : 0 < ps.length) (hw : weight names + weight (mapFrom 0 ps) ≤ 4000) (hwp : weight ps ≤ 4000) :
    Spec w 174 [.str (PP names) t, .ref l] 4 32 (fun h => h.IsList l vs) (RetStr (PP (ledTo names ps))) := by
  have hpl := weight_len ps
  have e1 := @start_eq names ps
  have e2 := @start_root names ps
  have hst := start_weight names ps
  have hsc := start_comp (ps := ps) hc
  unfold ledTo
  generalize start names ps = st at *
  w_top off
  ((have fk := kfill); revert fk; k_fill; intro fk; clear fk)
  refine' enter [("stand", .str (PP names) t), ("bare", .ref l)] ?ho ?hcd ?hbind ?hloc ?_ ?h1 ?h2 ?h3 ?h4 ?h5
  ((case ho => k_is); (case hcd => k_is); (case hbind => intro s; exact BindsTo.of_eq (by with_unfolding_all rfl)); (case hloc => exact locs (by with_unfolding_all rfl)); (case h1 => decide); (case h2 => rfl); (case h3 => rfl); (case h4 => rfl); (case h5 => decide))
  intro dp outer gd un base h₀ s L mean mg mb B X T hdp hun hl F N
  simp only [lit_slash, lit_empty]
  k_fold
  k_steps
  repeat (any_goals ((with_reducible refine Stop.on ?_); (first | ((with_reducible show wpAny _ _ (call (Value.ref 150) [Value.str (PP _) _]) _ _ _); refine' Spec.useS (spec_normpath _ _ _ (by assumption) (by assumption)) (by assumption) (by assumption) (by assumption) (by assumption) (by assumption) trivial rfl (by omega) (by omega) ?_; intro t' h' tk' F' N'; (try k_sweep)) | ((with_reducible show wpAny _ _ (call (Value.ref 122) [Value.str (PP _) _, Value.str _ _]) _ _ _); refine' Spec.useS (spec_join _ _ _ _ _ (by assumption) (by first | exact comp_dot | exact comp_dots | exact part_comp (by assumption) (by assumption)) (by assumption) (by first | assumption | decide)) (by assumption) (by assumption) (by assumption) (by assumption) (by assumption) trivial rfl (by omega) (by omega) ?_; intro t' h' tk' F' N'; (try k_sweep)) | ((with_reducible show wpAny _ _ (subscriptTail _ _ (Value.ref _) (Value.int _ _)) _ _ _); refine' item_strs (by exact Fr.lst (by assumption) (by assumption)) (by assumption) (by decide) (by omega) (by omega) ?_ (by with_unfolding_all rfl); intro t')); k_steps))
  all_goals (try dsimp only)
  all_goals (rename Fr _ _ _ _ => F1; rename News _ _ _ _ => N1)
  rotate_left
  · rename (_ == _) = false => he
    rw [← PP_nil, ← e2 he] at F1
    refine Stop.on ?_
    refine For_enum (h₀ := h₀) rfl rfl rfl rfl ?_ (fun _ => rfl) (hE := fun _ _ h => h.elim)
    k_fold
    iterate 6 walk1
    have hlL : l ≠ L := Nat.ne_of_lt (Nat.lt_of_lt_of_le (by obtain ⟨o, ho, _⟩ := hl; exact Heap.lt_size ho) F1.above)
    refine' loopEnum (α := Str × Tok) (vs := vs.toList) (rest := []) (fun a => [(Str.ofString "path", .str a.1 a.2)]) (fun _ => []) (fun i a => a.1 = PP (st ++ (mapFrom 0 ps).take i)) [] (PP st, ?tk0) (by simpa using Fr.lst F1 hl) hlL F1 N1 ?hp ?h0 ?turn ?done
    case hp => exact List.forall_mem_singleton.mpr (by with_unfolding_all rfl)
    case h0 => simp
    case turn =>
      rintro i v tt ⟨pth, tp⟩ u e2 it h tk own hv hR hoff hown hIo F2 N2 hrest
      dsimp only at hR
      subst hR
      change Fr h₀ L _ _ at F2
      change News h₀ L _ _ at N2
      obtain ⟨p, ty, rfl, hy⟩ := StrsAre.item hS _ v hv
      have hpp := hps p (List.mem_of_getElem? hy)
      have hmg := mapFrom_get (i := 0) hy
      have hts := take_snoc hmg
      have hwt := weight_take_app st (mapFrom 0 ps) i
      have hlp := PP_weight (st ++ (mapFrom 0 ps).take i)
      replace hlp : (PP (st ++ (mapFrom 0 ps).take i)).length ≤ 4096 := by omega
      have hcs : ∀ c ∈ st ++ (mapFrom 0 ps).take i, Comp c := fun c hc => (List.mem_append.mp hc).elim (hsc c) fun q => mapFrom_comp hps c (List.mem_of_mem_take q)
      have hpc := @part_comp p hpp
      have hyl : p.length ≤ 4096 := by have := weight_get hy; omega
      dsimp only [kstB] at F2
      simp only [List.nil_append] at N2
      clear hv hoff hown hrest
      generalize hgg : st ++ (mapFrom 0 ps).take i = cs at *
      show wpAny _ _ _ _ _ _
      k_fold
      k_steps
      repeat (any_goals ((with_reducible refine Stop.on ?_); (first | ((with_reducible show wpAny _ _ (call (Value.ref 150) [Value.str (PP _) _]) _ _ _); refine' Spec.useS (spec_normpath _ _ _ (by assumption) (by assumption)) (by assumption) (by assumption) (by assumption) (by assumption) (by assumption) trivial rfl (by omega) (by omega) ?_; intro t' h' tk' F' N'; (try k_sweep)) | ((with_reducible show wpAny _ _ (call (Value.ref 122) [Value.str (PP _) _, Value.str _ _]) _ _ _); refine' Spec.useS (spec_join _ _ _ _ _ (by assumption) (by first | exact comp_dot | exact comp_dots | exact part_comp (by assumption) (by assumption)) (by assumption) (by first | assumption | decide)) (by assumption) (by assumption) (by assumption) (by assumption) (by assumption) trivial rfl (by omega) (by omega) ?_; intro t' h' tk' F' N'; (try k_sweep)) | ((with_reducible show wpAny _ _ (subscriptTail _ _ (Value.ref _) (Value.int _ _)) _ _ _); refine' item_strs (by exact Fr.lst (by assumption) (by assumption)) (by assumption) (by decide) (by omega) (by omega) ?_ (by with_unfolding_all rfl); intro t')); k_steps))
      all_goals (try dsimp only)
      all_goals (change GenEnd _ _ _ _ _ _ _ _ _ _ _ _)
      all_goals (refine strEnd (by assumption) (by assumption) (fun _ h => h) (by with_unfolding_all rfl) (fun z h1 h2 _ => ?_) ?_)
      all_goals first
        | (simp only [List.contains_cons, List.contains_nil, Bool.or_false, Bool.or_eq_false_iff, beq_eq_false_iff_ne] at h1
           simp only [if_neg h1.1, if_neg h1.2, if_neg h2, List.contains_nil, Bool.false_eq_true, if_false])
        | (rw [hts, ← List.append_assoc, hgg, Nat.zero_add, mp_name (by assumption)])
        | (rw [hts, ← List.append_assoc, hgg, Nat.zero_add, mp_first (by assumption) (by assumption)])
        | (rw [hts, ← List.append_assoc, hgg, Nat.zero_add, mp_later (by assumption) (by assumption)])
    case done =>
      rintro ⟨pth, tp⟩ u h tk hR F2 N2
      dsimp only at hR
      change Fr h₀ L _ _ at F2
      change News h₀ L _ _ at N2
      have hlen : vs.toList.length = (mapFrom 0 ps).length := by rw [mapFrom_len]; exact StrsAre.length hS
      rw [hlen, List.take_length] at hR
      subst hR
      have hwt : weight (st ++ mapFrom 0 ps) ≤ 4000 := by rw [weight_app]; omega
      have hlp := PP_weight (st ++ mapFrom 0 ps)
      replace hlp : (PP (st ++ mapFrom 0 ps)).length ≤ 4096 := by omega
      have hcs : ∀ c ∈ st ++ mapFrom 0 ps, Comp c := fun c hc => (List.mem_append.mp hc).elim (hsc c) fun q => mapFrom_comp hps c q
      dsimp only [kstB] at F2
      show wpAny _ _ _ _ _ _
      k_steps
      repeat (any_goals ((with_reducible refine Stop.on ?_); (first | ((with_reducible show wpAny _ _ (call (Value.ref 150) [Value.str (PP _) _]) _ _ _); refine' Spec.useS (spec_normpath _ _ _ (by assumption) (by assumption)) (by assumption) (by assumption) (by assumption) (by assumption) (by assumption) trivial rfl (by omega) (by omega) ?_; intro t' h' tk' F' N'; (try k_sweep)) | ((with_reducible show wpAny _ _ (call (Value.ref 122) [Value.str (PP _) _, Value.str _ _]) _ _ _); refine' Spec.useS (spec_join _ _ _ _ _ (by assumption) (by first | exact comp_dot | exact comp_dots | exact part_comp (by assumption) (by assumption)) (by assumption) (by first | assumption | decide)) (by assumption) (by assumption) (by assumption) (by assumption) (by assumption) trivial rfl (by omega) (by omega) ?_; intro t' h' tk' F' N'; (try k_sweep)) | ((with_reducible show wpAny _ _ (subscriptTail _ _ (Value.ref _) (Value.int _ _)) _ _ _); refine' item_strs (by exact Fr.lst (by assumption) (by assumption)) (by assumption) (by decide) (by omega) (by omega) ?_ (by with_unfolding_all rfl); intro t')); k_steps))
      all_goals (refine Back.ret (by assumption) ⟨_, rfl⟩)
  · rename (_ == _) = true => he
    rw [← e1 he] at F1
    refine Stop.on ?_
    refine For_enum (h₀ := h₀) rfl rfl rfl rfl ?_ (fun _ => rfl) (hE := fun _ _ h => h.elim)
    k_fold
    iterate 6 walk1
    have hlL : l ≠ L := Nat.ne_of_lt (Nat.lt_of_lt_of_le (by obtain ⟨o, ho, _⟩ := hl; exact Heap.lt_size ho) F1.above)
    refine' loopEnum (α := Str × Tok) (vs := vs.toList) (rest := []) (fun a => [(Str.ofString "path", .str a.1 a.2)]) (fun _ => []) (fun i a => a.1 = PP (st ++ (mapFrom 0 ps).take i)) [] (PP st, ?tk02) (by simpa using Fr.lst F1 hl) hlL F1 N1 ?hp2 ?h02 ?turn2 ?done2
    case hp2 => exact List.forall_mem_singleton.mpr (by with_unfolding_all rfl)
    case h02 => simp
    case turn2 =>
      rintro i v tt ⟨pth, tp⟩ u e2 it h tk own hv hR hoff hown hIo F2 N2 hrest
      dsimp only at hR
      subst hR
      change Fr h₀ L _ _ at F2
      change News h₀ L _ _ at N2
      obtain ⟨p, ty, rfl, hy⟩ := StrsAre.item hS _ v hv
      have hpp := hps p (List.mem_of_getElem? hy)
      have hmg := mapFrom_get (i := 0) hy
      have hts := take_snoc hmg
      have hwt := weight_take_app st (mapFrom 0 ps) i
      have hlp := PP_weight (st ++ (mapFrom 0 ps).take i)
      replace hlp : (PP (st ++ (mapFrom 0 ps).take i)).length ≤ 4096 := by omega
      have hcs : ∀ c ∈ st ++ (mapFrom 0 ps).take i, Comp c := fun c hc => (List.mem_append.mp hc).elim (hsc c) fun q => mapFrom_comp hps c (List.mem_of_mem_take q)
      have hpc := @part_comp p hpp
      have hyl : p.length ≤ 4096 := by have := weight_get hy; omega
      dsimp only [kstB] at F2
      simp only [List.nil_append] at N2
      clear hv hoff hown hrest
      generalize hgg : st ++ (mapFrom 0 ps).take i = cs at *
      show wpAny _ _ _ _ _ _
      k_fold
      k_steps
      repeat (any_goals ((with_reducible refine Stop.on ?_); (first | ((with_reducible show wpAny _ _ (call (Value.ref 150) [Value.str (PP _) _]) _ _ _); refine' Spec.useS (spec_normpath _ _ _ (by assumption) (by assumption)) (by assumption) (by assumption) (by assumption) (by assumption) (by assumption) trivial rfl (by omega) (by omega) ?_; intro t' h' tk' F' N'; (try k_sweep)) | ((with_reducible show wpAny _ _ (call (Value.ref 122) [Value.str (PP _) _, Value.str _ _]) _ _ _); refine' Spec.useS (spec_join _ _ _ _ _ (by assumption) (by first | exact comp_dot | exact comp_dots | exact part_comp (by assumption) (by assumption)) (by assumption) (by first | assumption | decide)) (by assumption) (by assumption) (by assumption) (by assumption) (by assumption) trivial rfl (by omega) (by omega) ?_; intro t' h' tk' F' N'; (try k_sweep)) | ((with_reducible show wpAny _ _ (subscriptTail _ _ (Value.ref _) (Value.int _ _)) _ _ _); refine' item_strs (by exact Fr.lst (by assumption) (by assumption)) (by assumption) (by decide) (by omega) (by omega) ?_ (by with_unfolding_all rfl); intro t')); k_steps))
      all_goals (try dsimp only)
      all_goals (change GenEnd _ _ _ _ _ _ _ _ _ _ _ _)
      all_goals (refine strEnd (by assumption) (by assumption) (fun _ h => h) (by with_unfolding_all rfl) (fun z h1 h2 _ => ?_) ?_)
      all_goals first
        | (simp only [List.contains_cons, List.contains_nil, Bool.or_false, Bool.or_eq_false_iff, beq_eq_false_iff_ne] at h1
           simp only [if_neg h1.1, if_neg h1.2, if_neg h2, List.contains_nil, Bool.false_eq_true, if_false])
        | (rw [hts, ← List.append_assoc, hgg, Nat.zero_add, mp_name (by assumption)])
        | (rw [hts, ← List.append_assoc, hgg, Nat.zero_add, mp_first (by assumption) (by assumption)])
        | (rw [hts, ← List.append_assoc, hgg, Nat.zero_add, mp_later (by assumption) (by assumption)])
    case done2 =>
      rintro ⟨pth, tp⟩ u h tk hR F2 N2
      dsimp only at hR
      change Fr h₀ L _ _ at F2
      change News h₀ L _ _ at N2
      have hlen : vs.toList.length = (mapFrom 0 ps).length := by rw [mapFrom_len]; exact StrsAre.length hS
      rw [hlen, List.take_length] at hR
      subst hR
      have hwt : weight (st ++ mapFrom 0 ps) ≤ 4000 := by rw [weight_app]; omega
      have hlp := PP_weight (st ++ mapFrom 0 ps)
      replace hlp : (PP (st ++ mapFrom 0 ps)).length ≤ 4096 := by omega
      have hcs : ∀ c ∈ st ++ mapFrom 0 ps, Comp c := fun c hc => (List.mem_append.mp hc).elim (hsc c) fun q => mapFrom_comp hps c q
      dsimp only [kstB] at F2
      show wpAny _ _ _ _ _ _
      k_steps
      repeat (any_goals ((with_reducible refine Stop.on ?_); (first | ((with_reducible show wpAny _ _ (call (Value.ref 150) [Value.str (PP _) _]) _ _ _); refine' Spec.useS (spec_normpath _ _ _ (by assumption) (by assumption)) (by assumption) (by assumption) (by assumption) (by assumption) (by assumption) trivial rfl (by omega) (by omega) ?_; intro t' h' tk' F' N'; (try k_sweep)) | ((with_reducible show wpAny _ _ (call (Value.ref 122) [Value.str (PP _) _, Value.str _ _]) _ _ _); refine' Spec.useS (spec_join _ _ _ _ _ (by assumption) (by first | exact comp_dot | exact comp_dots | exact part_comp (by assumption) (by assumption)) (by assumption) (by first | assumption | decide)) (by assumption) (by assumption) (by assumption) (by assumption) (by assumption) trivial rfl (by omega) (by omega) ?_; intro t' h' tk' F' N'; (try k_sweep)) | ((with_reducible show wpAny _ _ (subscriptTail _ _ (Value.ref _) (Value.int _ _)) _ _ _); refine' item_strs (by exact Fr.lst (by assumption) (by assumption)) (by assumption) (by decide) (by omega) (by omega) ?_ (by with_unfolding_all rfl); intro t')); k_steps))
      all_goals (refine Back.ret (by assumption) ⟨_, rfl⟩)
end Mine
end

section
open PySem PySem.W PyProof.Rows
namespace Mine
set_option maxRecDepth 100000
set_option maxHeartbeats 8000000
set_option rowWalk.seconds 0


local macro_rules | `(tactic| walk_at "exec For Name Call cons nil") => `(tactic| refine Stop.here ?_)
local macro_rules | `(tactic| walk_at "pyIter ref") => `(tactic| refine Stop.here ?_)
structure PeelSt where
  rs : List Str
  td : Tok
  lb : Addr
  us : Array Value
  n : Nat
local macro_rules | `(tactic| walk_at "call ref") => `(tactic| (refine Stop.here ?_))
local macro_rules | `(tactic| walk_at "binaryOp Add ref ref") => `(tactic| (refine Stop.here ?_))
theorem spec_peeled (w : World) (ps : List Str) (d : Str) (t u : Tok) (hb : ∀ p ∈ ps, Bare p) (hne : ps ≠ []) (hd : Detail d) (hdl : d.length ≤ 100) (hw : weight ps ≤ 3000) :
    Spec w 167 [.str (Str.join (one 46) ps) t, .str d u] 2 16 (fun _ => True) (RetStrs ps) := by
  have hjl := join_len_le 46 ps
  w_top off
  ((have fk := kfill); revert fk; k_fill; intro fk; clear fk)
  refine' enter [("dotted", .str (Str.join (one 46) ps) t), ("detail", .str d u)] ?ho ?hcd ?hbind ?hloc ?_ ?h1 ?h2 ?h3 ?h4 ?h5
  ((case ho => k_is); (case hcd => k_is); (case hbind => intro s; exact BindsTo.of_eq (by with_unfolding_all rfl)); (case hloc => exact locs (by with_unfolding_all rfl)); (case h1 => decide); (case h2 => rfl); (case h3 => rfl); (case h4 => rfl); (case h5 => decide))
  intro dp outer gd un base h₀ s L mean mg mb B X T hdp hun _ F N
  k_fold
  k_steps
  repeat (any_goals ((with_reducible refine Stop.on ?_); (first | ((with_reducible show wpAny _ _ (binaryOp _ (Value.ref _) (Value.ref _)) _ _ _); refine' add_K (by assumption) (by assumption) (by exact News.isList (by assumption) (by k_mem)) (by exact News.isList (by assumption) (by k_mem)) (by (have hz9 := size_strs (by assumption)); simp only [List.size_toArray, List.length_cons, List.length_nil]; omega) ?_; intro D' h' F' N' l1; (try k_lt l1); (try k_sweep)) | ((with_reducible show wpAny _ _ (call (Value.ref 28) [Value.str (Str.join _ _ ++ _) _]) _ _ _); refine' Spec.useS (spec_strip _ _ _ _ _ (by assumption) (by assumption) (by rw [Str.length_append]; omega)) (by assumption) (by assumption) (by assumption) (by assumption) (by assumption) trivial rfl (by omega) (by omega) ?_; intro t' h' tk' F' N'; (try k_sweep))); k_steps))
  all_goals (try dsimp only)
  · rename Fr _ _ _ _ => F1
    rename News _ _ _ _ => N1
    refine Stop.on ?_
    refine For_invVF F1 rfl rfl ?_ (hE := fun _ _ h => h.elim)
    k_fold
    k_steps
    repeat (any_goals ((with_reducible refine Stop.on ?_); (first | ((with_reducible show wpAny _ _ (binaryOp _ (Value.ref _) (Value.ref _)) _ _ _); refine' add_K (by assumption) (by assumption) (by exact News.isList (by assumption) (by k_mem)) (by exact News.isList (by assumption) (by k_mem)) (by (have hz9 := size_strs (by assumption)); simp only [List.size_toArray, List.length_cons, List.length_nil]; omega) ?_; intro D' h' F' N' l1; (try k_lt l1); (try k_sweep)) | ((with_reducible show wpAny _ _ (call (Value.ref 28) [Value.str (Str.join _ _ ++ _) _]) _ _ _); refine' Spec.useS (spec_strip _ _ _ _ _ (by assumption) (by assumption) (by rw [Str.length_append]; omega)) (by assumption) (by assumption) (by assumption) (by assumption) (by assumption) trivial rfl (by omega) (by omega) ?_; intro t' h' tk' F' N'; (try k_sweep))); k_steps))
    refine Stop.on ?_
    rename IsRange _ _ _ _ _ _ _ _ => hr
    rename Fr _ _ _ _ => F2
    rename News _ _ _ _ => N2
    have hlw := weight_len ps
    refine' loopRange (α := PeelSt) (rest := []) (n := (((Str.join (one 46) ps).length : Int) + 1 - 0).toNat) (fun a => [(Str.ofString "dotted", .str (Str.join (one 46) a.rs) a.td), (Str.ofString "bare", .ref a.lb)]) (fun a => [(a.lb, listOf a.us a.n)])
      (fun i a => ∃ dn, a.rs ++ dn = ps ∧ a.rs ≠ [] ∧ a.rs.length + i = ps.length ∧ StrsAre a.us.toList dn) [Str.ofString "name"] ⟨ps, t, _, #[], 0⟩ rfl hr (small_one (by omega) (by omega) (by omega) (by omega)) (rangeSize_nat _ _) F2 N2 ?hp ⟨[], by simp, hne, by simp, .nil⟩ ?turn ?done
    case hp =>
      intro p hp
      simp only [List.mem_cons, List.not_mem_nil, or_false] at hp
      rcases hp with rfl | rfl
      · with_unfolding_all rfl
      · with_unfolding_all rfl
    case turn =>
      rintro i tt ⟨rs, td, lb', us, n⟩ u2 I h tk own hi ⟨dn, h1, h2, h3, h4⟩ hoff hown hIo F3 N3 hrest
      dsimp only at h1 h2 h3 h4
      change Fr h₀ L _ _ at F3
      change News h₀ L _ _ at N3
      obtain ⟨qs, nm, rfl⟩ : ∃ qs nm, rs = qs ++ [nm] := ⟨rs.dropLast, rs.getLast h2, (List.dropLast_concat_getLast h2).symm⟩
      have hbq : ∀ p ∈ qs ++ [nm], Bare p := fun p hp => hb p (by rw [← h1]; exact List.mem_append_left _ hp)
      have hn46 : 46 ∉ tl nm := fun h => (hbq nm (by simp) _ h).1 rfl
      have hwa : weight (qs ++ [nm]) ≤ 3000 := by have := weight_app (qs ++ [nm]) dn; rw [h1] at this; omega
      have hjl2 := join_len_le 46 (qs ++ [nm])
      replace hjl2 : (Str.join (one 46) (qs ++ [nm])).length ≤ 3000 := by omega
      have hnl : nm.length ≤ 3000 := by have := weight_app qs [nm]; rw [weight_cons] at this; omega
      have hdn : dn.length ≤ 3000 := by have := weight_app (qs ++ [nm]) dn; rw [h1] at this; have := weight_len dn; omega
      have hlI : lb' ∉ [I] := hoff (lb', listOf us n) (by simp)
      dsimp only [kstB] at F3
      simp only [List.cons_append, List.nil_append] at N3
      clear hoff hown hrest F2 N2
      show wpAny _ _ _ _ _ _
      k_fold
      k_steps
      repeat (any_goals ((with_reducible refine Stop.on ?_); (first | ((with_reducible show wpAny _ _ (binaryOp _ (Value.ref _) (Value.ref _)) _ _ _); refine' add_K (by assumption) (by assumption) (by exact News.isList (by assumption) (by k_mem)) (by exact News.isList (by assumption) (by k_mem)) (by (have hz9 := size_strs (by assumption)); simp only [List.size_toArray, List.length_cons, List.length_nil]; omega) ?_; intro D' h' F' N' l1; (try k_lt l1); (try k_sweep)) | ((with_reducible show wpAny _ _ (call (Value.ref 28) [Value.str (Str.join _ _ ++ _) _]) _ _ _); refine' Spec.useS (spec_strip _ _ _ _ _ (by assumption) (by assumption) (by rw [Str.length_append]; omega)) (by assumption) (by assumption) (by assumption) (by assumption) (by assumption) trivial rfl (by omega) (by omega) ?_; intro t' h' tk' F' N'; (try k_sweep))); k_steps))
      all_goals (try dsimp only)
      · rename (_ == _) = true => hq
        have hq2 := name_is hn46 hq
        subst hq2
        refine Back.retN (by assumption) (by assumption) (fun N9 => retStrs_of N9 (.head _) ?_)
        rw [← h1]
        exact .cons _ _ h4
      · rename (_ == _) = false => hq
        have hq2 := name_not hq
        rename (_ ∧ _ ∧ AllLt _ _) => l1
        change GenEnd _ _ _ _ _ _ _ _ _ _ _ _
        refine' GenEnd.mk ⟨qs, _, _, _, 0⟩ ?F ?N ?h1 ?h2 ?h3 ?h4 ?h5 ⟨nm :: dn, ?r1, ?r0, ?r2, ?r3⟩
        case F => assumption
        case N => assumption
        case h1 => intro p hp; rw [List.mem_singleton.mp hp]; exact .head _
        case h2 => exact fun p hp => .tail _ (.tail _ (.tail _ hp))
        case h3 => intro p hp; rw [List.mem_singleton.mp hp]; exact off_of hIo l1.2.2
        case h4 =>
          intro p hp
          simp only [List.mem_cons, List.not_mem_nil, or_false] at hp
          rcases hp with rfl | rfl
          · rw [← peel_cut hq2]; with_unfolding_all rfl
          · with_unfolding_all rfl
        case h5 =>
          intro z hz hp hs
          have hz1 : z ≠ Str.ofString "step" := by simpa using hz
          have hz2 : z ≠ Str.ofString "name" := by simpa using hs
          have hz3 : z ≠ Str.ofString "dotted" := hp _ (.head _)
          have hz4 : z ≠ Str.ofString "bare" := hp _ (.tail _ (.head _))
          simp only [if_neg hz1, if_neg hz2, if_neg hz3, if_neg hz4, hs, Bool.false_eq_true, if_false]
        case r0 => exact hq2
        case r3 => exact .cons _ _ h4
        case r1 => rw [← h1]; simp
        case r2 => simp only [List.length_append, List.length_cons, List.length_nil] at h3 ⊢; omega
    case done =>
      rintro ⟨rs, td, lb', us, n⟩ u2 h tk ⟨dn, h1, h2, h3, h4⟩ F3 N3
      exfalso
      have := join_len_ge 46 hne
      have := List.length_pos_iff.mpr h2
      omega
end Mine
end

section
open PySem PySem.W PyProof.Rows
namespace Mine
set_option maxRecDepth 100000
set_option maxHeartbeats 8000000
set_option rowWalk.seconds 0


local macro_rules | `(tactic| walk_at "mine pad") => `(tactic| skip)
local macro_rules | `(tactic| walk_at "exec For Tuple Call cons nil") => `(tactic| refine Stop.here ?_)
local macro_rules | `(tactic| walk_at "subscriptTail Name Constant ref int") => `(tactic| (refine Stop.here ?_))
local macro_rules | `(tactic| walk_at "binaryOp Add ref ref") => `(tactic| (refine Stop.here ?_))
local macro_rules | `(tactic| walk_at "subscriptTail Name Slice ref ref") => `(tactic| (refine Stop.here ?_))
structure WalkSt where
  lw : Addr
  us : Array Value
  nw : List (Addr × Obj)
theorem spec_walked (w : World) (names ps : List Str) (nv pv : Array Value) (ln lp : Addr) (hN : StrsAre nv.toList names) (hP : StrsAre pv.toList ps) (hne : 0 < ps.length) (hlast : ∀ p, ps[ps.length - 1]? = some p → p ≠ Str.empty) (hw : weight names + weight ps ≤ 4000) :
    Spec w 181 [.ref ln, .ref lp] 2 16 (fun h => h.IsList ln nv ∧ h.IsList lp pv) (RetStrs (walkTo names ps ps.length)) := by
  have hpl := weight_len ps
  have e1 := @start_eq names ps
  have e2 := @start_root names ps
  have hps := size_strs hP
  w_top off
  ((have fk := kfill); revert fk; k_fill; intro fk; clear fk)
  refine' enter [("names", .ref ln), ("pieces", .ref lp)] ?ho ?hcd ?hbind ?hloc ?_ ?h1 ?h2 ?h3 ?h4 ?h5
  ((case ho => k_is); (case hcd => k_is); (case hbind => intro s; exact BindsTo.of_eq (by with_unfolding_all rfl)); (case hloc => exact locs (by with_unfolding_all rfl)); (case h1 => decide); (case h2 => rfl); (case h3 => rfl); (case h4 => rfl); (case h5 => decide))
  rintro dp outer gd un base h₀ s L mean mg mb B X T hdp hun ⟨hl1, hl2⟩ F N
  simp only [lit_empty]
  k_fold
  k_steps
  repeat (any_goals ((with_reducible refine Stop.on ?_); (first | ((with_reducible show wpAny _ _ (subscriptTail _ _ (Value.ref _) (Value.ref _)) _ _ _); refine' slice_K (by assumption) (by assumption) (by first | exact Fr.lst (by assumption) (by assumption) | exact News.isList (by assumption) (by k_mem)) (by first | exact .none | exact .int _ _) (by first | exact .none | exact .int _ _) (by omega) ?_ (by with_unfolding_all rfl) (by intro _; with_unfolding_all rfl); intro D' h' F' N' l1; (try k_lt l1); (try k_sweep)) | ((with_reducible show wpAny _ _ (binaryOp _ (Value.ref _) (Value.ref _)) _ _ _); refine' add_K (by assumption) (by assumption) (by first | exact Fr.lst (by assumption) (by assumption) | exact News.isList (by assumption) (by k_mem)) (by exact News.isList (by assumption) (by k_mem)) (by (simp only [List.size_toArray, List.length_cons, List.length_nil]); omega) ?_; intro D' h' F' N' l1; (try k_lt l1); (try k_sweep)) | ((with_reducible show wpAny _ _ (subscriptTail _ _ (Value.ref _) (Value.int _ _)) _ _ _); refine' item_strs (by exact Fr.lst (by assumption) (by assumption)) (by assumption) (by decide) (by omega) (by omega) ?_ (by with_unfolding_all rfl); intro t')); k_steps))
  all_goals (try dsimp only)
  all_goals (rename Fr _ _ _ _ => F1; rename News _ _ _ _ => N1)
  · rename (_ == _) = true => he
    refine Stop.on ?_
    refine For_enum (h₀ := h₀) rfl rfl rfl rfl ?_ (fun _ => rfl) (hE := fun _ _ h => h.elim)
    k_fold
    iterate 6 walk1
    have hlL : lp ≠ L := Nat.ne_of_lt (Nat.lt_of_lt_of_le (by obtain ⟨o, ho, _⟩ := hl2; exact Heap.lt_size ho) F1.above)
    refine' loopEnum (α := WalkSt) (vs := pv.toList) (rest := []) (fun a => [(Str.ofString "way", .ref a.lw)]) (fun a => a.nw)
      (fun i a => StrsAre a.us.toList (walkTo names ps i) ∧ ((∃ n, a.nw = [(a.lw, listOf a.us n)]) ∨ (a.nw = [] ∧ h₀.IsList a.lw a.us ∧ (i = 0 ∨ ps[i - 1]? = some Str.empty)))) [] ⟨ln, nv, []⟩ (by simpa using Fr.lst F1 hl2) hlL F1 N1 ?hp1 ?h01 ?turn1 ?done1
    case hp1 => exact List.forall_mem_singleton.mpr (by with_unfolding_all rfl)
    case h01 => exact ⟨by rw [walkTo, e1 he]; exact hN, .inr ⟨rfl, hl1, .inl rfl⟩⟩
    case turn1 =>
      rintro i v tt ⟨lw, us, nw⟩ u e3 it h tk own hv ⟨hR, hW⟩ hoff hown hIo F2 N2 hrest
      dsimp only at hR hW
      change Fr h₀ L _ _ at F2
      change News h₀ L _ _ at N2
      obtain ⟨p, ty, rfl, hy⟩ := StrsAre.item hP _ v hv
      have hstep := walk_step (names := names) hy
      have hyl : p.length ≤ 4096 := by have := weight_get hy; omega
      have hus := size_strs hR
      have hww := walk_weight names ps i
      have hwt := weight_take i ps
      have hwl := weight_len (walkTo names ps i)
      replace hus : us.size ≤ 4000 := by omega
      clear hww hwt hwl
      dsimp only [kstB] at F2
      have hlo : ∀ p ∈ nw, p.1 ∉ [e3, it] := fun p hp => hoff p (List.mem_append_left _ hp)
      clear hv hoff hown hrest F1 N1
      rcases hW with ⟨n, rfl⟩ | ⟨rfl, hl3, hor⟩
      all_goals (simp only [List.nil_append, List.cons_append] at N2)
      all_goals (show wpAny _ _ _ _ _ _)
      all_goals k_fold
      all_goals k_steps
      repeat (any_goals ((with_reducible refine Stop.on ?_); (first | ((with_reducible show wpAny _ _ (subscriptTail _ _ (Value.ref _) (Value.ref _)) _ _ _); refine' slice_K (by assumption) (by assumption) (by first | exact Fr.lst (by assumption) (by assumption) | exact News.isList (by assumption) (by k_mem)) (by first | exact .none | exact .int _ _) (by first | exact .none | exact .int _ _) (by omega) ?_ (by with_unfolding_all rfl) (by intro _; with_unfolding_all rfl); intro D' h' F' N' l1; (try k_lt l1); (try k_sweep)) | ((with_reducible show wpAny _ _ (binaryOp _ (Value.ref _) (Value.ref _)) _ _ _); refine' add_K (by assumption) (by assumption) (by first | exact Fr.lst (by assumption) (by assumption) | exact News.isList (by assumption) (by k_mem)) (by exact News.isList (by assumption) (by k_mem)) (by (simp only [List.size_toArray, List.length_cons, List.length_nil]); omega) ?_; intro D' h' F' N' l1; (try k_lt l1); (try k_sweep)) | ((with_reducible show wpAny _ _ (subscriptTail _ _ (Value.ref _) (Value.int _ _)) _ _ _); refine' item_strs (by exact Fr.lst (by assumption) (by assumption)) (by assumption) (by decide) (by omega) (by omega) ?_ (by with_unfolding_all rfl); intro t')); k_steps))
      all_goals (try dsimp only)
      all_goals (change GenEnd _ _ _ _ _ _ _ _ _ _ _ _)
      · refine' GenEnd.mk ⟨_, _, [(_, listOf _ 0)]⟩ ?F1a ?N1a ?h11a ?h21a ?h31a ?h41a ?h51a ⟨?r11a, .inl ⟨0, rfl⟩⟩
        case F1a => assumption
        case N1a => assumption
        case h11a => intro p hp; rw [List.mem_singleton.mp hp]; exact .head _
        case h21a => intro p hp; repeat (first | exact hp | refine .tail _ ?_)
        case h31a => intro p hp; rw [List.mem_singleton.mp hp]; first | exact off_of hIo (by assumption : _ ∧ AllLt _ _).2 | exact off_of hIo (by assumption : _ ∧ _ ∧ AllLt _ _).2.2 | exact off_of hIo (allLt_of (by assumption))
        case h41a => exact List.forall_mem_singleton.mpr (by with_unfolding_all rfl)
        case h51a =>
          intro z hz hp _
          have hz1 : z ≠ Str.ofString "way" := hp _ (.head _)
          simp only [List.contains_cons, List.contains_nil, Bool.or_false, Bool.or_eq_false_iff, beq_eq_false_iff_ne] at hz
          simp only [if_neg hz.1, if_neg hz.2, if_neg hz1, List.contains_nil, Bool.false_eq_true, if_false]
        case r11a => rw [hstep, wstep_name (by assumption)]; exact strs_snoc hR
      · refine' GenEnd.mk ⟨_, _, [(_, listOf _ 0)]⟩ ?F1b ?N1b ?h11b ?h21b ?h31b ?h41b ?h51b ⟨?r11b, .inl ⟨0, rfl⟩⟩
        case F1b => assumption
        case N1b => assumption
        case h11b => intro p hp; rw [List.mem_singleton.mp hp]; exact .head _
        case h21b => intro p hp; repeat (first | exact hp | refine .tail _ ?_)
        case h31b => intro p hp; rw [List.mem_singleton.mp hp]; first | exact off_of hIo (by assumption : _ ∧ AllLt _ _).2 | exact off_of hIo (by assumption : _ ∧ _ ∧ AllLt _ _).2.2 | exact off_of hIo (allLt_of (by assumption))
        case h41b => exact List.forall_mem_singleton.mpr (by with_unfolding_all rfl)
        case h51b =>
          intro z hz hp _
          have hz1 : z ≠ Str.ofString "way" := hp _ (.head _)
          simp only [List.contains_cons, List.contains_nil, Bool.or_false, Bool.or_eq_false_iff, beq_eq_false_iff_ne] at hz
          simp only [if_neg hz.1, if_neg hz.2, if_neg hz1, List.contains_nil, Bool.false_eq_true, if_false]
        case r11b => rw [hstep, wstep_up (by assumption) (by assumption)]; exact strs_butLast hR
      · refine' GenEnd.mk ⟨lw, us, [(lw, listOf us n)]⟩ ?F1c ?N1c ?h11c ?h21c ?h31c ?h41c ?h51c ⟨?r11c, ?r21c⟩
        case F1c => assumption
        case N1c => assumption
        case h11c => intro p hp; rw [List.mem_singleton.mp hp]; exact .head _
        case h21c => intro p hp; repeat (first | exact hp | refine .tail _ ?_)
        case h31c => exact hlo
        case h41c => exact List.forall_mem_singleton.mpr (by with_unfolding_all rfl)
        case h51c =>
          intro z hz hp _
          have hz1 : z ≠ Str.ofString "way" := hp _ (.head _)
          simp only [List.contains_cons, List.contains_nil, Bool.or_false, Bool.or_eq_false_iff, beq_eq_false_iff_ne] at hz
          simp only [if_neg hz.1, if_neg hz.2, if_neg hz1, List.contains_nil, Bool.false_eq_true, if_false]
        case r11c => rw [hstep, wstep_first (by assumption) (by assumption)]; exact hR
        case r21c => exact .inl ⟨n, rfl⟩
      · refine' GenEnd.mk ⟨_, _, [(_, listOf _ 0)]⟩ ?F1d ?N1d ?h11d ?h21d ?h31d ?h41d ?h51d ⟨?r11d, .inl ⟨0, rfl⟩⟩
        case F1d => assumption
        case N1d => assumption
        case h11d => intro p hp; rw [List.mem_singleton.mp hp]; exact .head _
        case h21d => intro p hp; repeat (first | exact hp | refine .tail _ ?_)
        case h31d => intro p hp; rw [List.mem_singleton.mp hp]; first | exact off_of hIo (by assumption : _ ∧ AllLt _ _).2 | exact off_of hIo (by assumption : _ ∧ _ ∧ AllLt _ _).2.2 | exact off_of hIo (allLt_of (by assumption))
        case h41d => exact List.forall_mem_singleton.mpr (by with_unfolding_all rfl)
        case h51d =>
          intro z hz hp _
          have hz1 : z ≠ Str.ofString "way" := hp _ (.head _)
          simp only [List.contains_cons, List.contains_nil, Bool.or_false, Bool.or_eq_false_iff, beq_eq_false_iff_ne] at hz
          simp only [if_neg hz.1, if_neg hz.2, if_neg hz1, List.contains_nil, Bool.false_eq_true, if_false]
        case r11d => rw [hstep, wstep_name (by assumption)]; exact strs_snoc hR
      · refine' GenEnd.mk ⟨_, _, [(_, listOf _ 0)]⟩ ?F1e ?N1e ?h11e ?h21e ?h31e ?h41e ?h51e ⟨?r11e, .inl ⟨0, rfl⟩⟩
        case F1e => assumption
        case N1e => assumption
        case h11e => intro p hp; rw [List.mem_singleton.mp hp]; exact .head _
        case h21e => intro p hp; repeat (first | exact hp | refine .tail _ ?_)
        case h31e => intro p hp; rw [List.mem_singleton.mp hp]; first | exact off_of hIo (by assumption : _ ∧ AllLt _ _).2 | exact off_of hIo (by assumption : _ ∧ _ ∧ AllLt _ _).2.2 | exact off_of hIo (allLt_of (by assumption))
        case h41e => exact List.forall_mem_singleton.mpr (by with_unfolding_all rfl)
        case h51e =>
          intro z hz hp _
          have hz1 : z ≠ Str.ofString "way" := hp _ (.head _)
          simp only [List.contains_cons, List.contains_nil, Bool.or_false, Bool.or_eq_false_iff, beq_eq_false_iff_ne] at hz
          simp only [if_neg hz.1, if_neg hz.2, if_neg hz1, List.contains_nil, Bool.false_eq_true, if_false]
        case r11e => rw [hstep, wstep_up (by assumption) (by assumption)]; exact strs_butLast hR
      · refine' GenEnd.mk ⟨lw, us, []⟩ ?F1f ?N1f ?h11f ?h21f ?h31f ?h41f ?h51f ⟨?r11f, ?r21f⟩
        case F1f => assumption
        case N1f => assumption
        case h11f => exact fun _ h => nomatch h
        case h21f => intro p hp; repeat (first | exact hp | refine .tail _ ?_)
        case h31f => exact fun _ h => nomatch h
        case h41f => exact List.forall_mem_singleton.mpr (by with_unfolding_all rfl)
        case h51f =>
          intro z hz hp _
          have hz1 : z ≠ Str.ofString "way" := hp _ (.head _)
          simp only [List.contains_cons, List.contains_nil, Bool.or_false, Bool.or_eq_false_iff, beq_eq_false_iff_ne] at hz
          simp only [if_neg hz.1, if_neg hz.2, if_neg hz1, List.contains_nil, Bool.false_eq_true, if_false]
        case r11f => rw [hstep, wstep_first (by assumption) (by assumption)]; exact hR
        case r21f => exact .inr ⟨rfl, hl3, .inr (by rw [Nat.add_sub_cancel, hy]; exact congrArg some (is_empty (by assumption)))⟩
    case done1 =>
      rintro ⟨lw, us, nw⟩ u h tk ⟨hR, hW⟩ F2 N2
      dsimp only at hR hW
      change Fr h₀ L _ _ at F2
      change News h₀ L _ _ at N2
      have hlen : pv.toList.length = ps.length := StrsAre.length hP
      rw [hlen] at hR hW
      have hfresh : ∃ n, nw = [(lw, listOf us n)] := by
        rcases hW with h1 | ⟨_, _, h2 | h2⟩
        · exact h1
        · omega
        · exact absurd rfl (hlast _ h2)
      obtain ⟨n, rfl⟩ := hfresh
      dsimp only [kstB] at F2
      clear F1 N1
      show wpAny _ _ _ _ _ _
      k_steps
      repeat (any_goals ((with_reducible refine Stop.on ?_); (first | ((with_reducible show wpAny _ _ (subscriptTail _ _ (Value.ref _) (Value.ref _)) _ _ _); refine' slice_K (by assumption) (by assumption) (by first | exact Fr.lst (by assumption) (by assumption) | exact News.isList (by assumption) (by k_mem)) (by first | exact .none | exact .int _ _) (by first | exact .none | exact .int _ _) (by omega) ?_ (by with_unfolding_all rfl) (by intro _; with_unfolding_all rfl); intro D' h' F' N' l1; (try k_lt l1); (try k_sweep)) | ((with_reducible show wpAny _ _ (binaryOp _ (Value.ref _) (Value.ref _)) _ _ _); refine' add_K (by assumption) (by assumption) (by first | exact Fr.lst (by assumption) (by assumption) | exact News.isList (by assumption) (by k_mem)) (by exact News.isList (by assumption) (by k_mem)) (by (simp only [List.size_toArray, List.length_cons, List.length_nil]); omega) ?_; intro D' h' F' N' l1; (try k_lt l1); (try k_sweep)) | ((with_reducible show wpAny _ _ (subscriptTail _ _ (Value.ref _) (Value.int _ _)) _ _ _); refine' item_strs (by exact Fr.lst (by assumption) (by assumption)) (by assumption) (by decide) (by omega) (by omega) ?_ (by with_unfolding_all rfl); intro t')); k_steps))
      all_goals (refine Back.retN (by assumption) (by assumption) (fun N9 => retStrs_of N9 (.head _) hR))
  · rename (_ == _) = false => he
    refine Stop.on ?_
    refine For_enum (h₀ := h₀) rfl rfl rfl rfl ?_ (fun _ => rfl) (hE := fun _ _ h => h.elim)
    k_fold
    iterate 6 walk1
    have hlL : lp ≠ L := Nat.ne_of_lt (Nat.lt_of_lt_of_le (by obtain ⟨o, ho, _⟩ := hl2; exact Heap.lt_size ho) F1.above)
    refine' loopEnum (α := WalkSt) (vs := pv.toList) (rest := []) (fun a => [(Str.ofString "way", .ref a.lw)]) (fun a => a.nw)
      (fun i a => StrsAre a.us.toList (walkTo names ps i) ∧ ((∃ n, a.nw = [(a.lw, listOf a.us n)]) ∨ (a.nw = [] ∧ h₀.IsList a.lw a.us ∧ (i = 0 ∨ ps[i - 1]? = some Str.empty)))) [] ⟨_, #[], [(_, listOf #[] 0)]⟩ (by simpa using Fr.lst F1 hl2) hlL F1 N1 ?hp2 ?h02 ?turn2 ?done2
    case hp2 => exact List.forall_mem_singleton.mpr (by with_unfolding_all rfl)
    case h02 => exact ⟨by rw [walkTo, e2 he]; exact .nil, .inl ⟨0, rfl⟩⟩
    case turn2 =>
      rintro i v tt ⟨lw, us, nw⟩ u e3 it h tk own hv ⟨hR, hW⟩ hoff hown hIo F2 N2 hrest
      dsimp only at hR hW
      change Fr h₀ L _ _ at F2
      change News h₀ L _ _ at N2
      obtain ⟨p, ty, rfl, hy⟩ := StrsAre.item hP _ v hv
      have hstep := walk_step (names := names) hy
      have hyl : p.length ≤ 4096 := by have := weight_get hy; omega
      have hus := size_strs hR
      have hww := walk_weight names ps i
      have hwt := weight_take i ps
      have hwl := weight_len (walkTo names ps i)
      replace hus : us.size ≤ 4000 := by omega
      clear hww hwt hwl
      dsimp only [kstB] at F2
      have hlo : ∀ p ∈ nw, p.1 ∉ [e3, it] := fun p hp => hoff p (List.mem_append_left _ hp)
      clear hv hoff hown hrest F1 N1
      rcases hW with ⟨n, rfl⟩ | ⟨rfl, hl3, hor⟩
      all_goals (simp only [List.nil_append, List.cons_append] at N2)
      all_goals (show wpAny _ _ _ _ _ _)
      all_goals k_fold
      all_goals k_steps
      repeat (any_goals ((with_reducible refine Stop.on ?_); (first | ((with_reducible show wpAny _ _ (subscriptTail _ _ (Value.ref _) (Value.ref _)) _ _ _); refine' slice_K (by assumption) (by assumption) (by first | exact Fr.lst (by assumption) (by assumption) | exact News.isList (by assumption) (by k_mem)) (by first | exact .none | exact .int _ _) (by first | exact .none | exact .int _ _) (by omega) ?_ (by with_unfolding_all rfl) (by intro _; with_unfolding_all rfl); intro D' h' F' N' l1; (try k_lt l1); (try k_sweep)) | ((with_reducible show wpAny _ _ (binaryOp _ (Value.ref _) (Value.ref _)) _ _ _); refine' add_K (by assumption) (by assumption) (by first | exact Fr.lst (by assumption) (by assumption) | exact News.isList (by assumption) (by k_mem)) (by exact News.isList (by assumption) (by k_mem)) (by (simp only [List.size_toArray, List.length_cons, List.length_nil]); omega) ?_; intro D' h' F' N' l1; (try k_lt l1); (try k_sweep)) | ((with_reducible show wpAny _ _ (subscriptTail _ _ (Value.ref _) (Value.int _ _)) _ _ _); refine' item_strs (by exact Fr.lst (by assumption) (by assumption)) (by assumption) (by decide) (by omega) (by omega) ?_ (by with_unfolding_all rfl); intro t')); k_steps))
      all_goals (try dsimp only)
      all_goals (change GenEnd _ _ _ _ _ _ _ _ _ _ _ _)
      · refine' GenEnd.mk ⟨_, _, [(_, listOf _ 0)]⟩ ?F2a ?N2a ?h12a ?h22a ?h32a ?h42a ?h52a ⟨?r12a, .inl ⟨0, rfl⟩⟩
        case F2a => assumption
        case N2a => assumption
        case h12a => intro p hp; rw [List.mem_singleton.mp hp]; exact .head _
        case h22a => intro p hp; repeat (first | exact hp | refine .tail _ ?_)
        case h32a => intro p hp; rw [List.mem_singleton.mp hp]; first | exact off_of hIo (by assumption : _ ∧ AllLt _ _).2 | exact off_of hIo (by assumption : _ ∧ _ ∧ AllLt _ _).2.2 | exact off_of hIo (allLt_of (by assumption))
        case h42a => exact List.forall_mem_singleton.mpr (by with_unfolding_all rfl)
        case h52a =>
          intro z hz hp _
          have hz1 : z ≠ Str.ofString "way" := hp _ (.head _)
          simp only [List.contains_cons, List.contains_nil, Bool.or_false, Bool.or_eq_false_iff, beq_eq_false_iff_ne] at hz
          simp only [if_neg hz.1, if_neg hz.2, if_neg hz1, List.contains_nil, Bool.false_eq_true, if_false]
        case r12a => rw [hstep, wstep_name (by assumption)]; exact strs_snoc hR
      · refine' GenEnd.mk ⟨_, _, [(_, listOf _ 0)]⟩ ?F2b ?N2b ?h12b ?h22b ?h32b ?h42b ?h52b ⟨?r12b, .inl ⟨0, rfl⟩⟩
        case F2b => assumption
        case N2b => assumption
        case h12b => intro p hp; rw [List.mem_singleton.mp hp]; exact .head _
        case h22b => intro p hp; repeat (first | exact hp | refine .tail _ ?_)
        case h32b => intro p hp; rw [List.mem_singleton.mp hp]; first | exact off_of hIo (by assumption : _ ∧ AllLt _ _).2 | exact off_of hIo (by assumption : _ ∧ _ ∧ AllLt _ _).2.2 | exact off_of hIo (allLt_of (by assumption))
        case h42b => exact List.forall_mem_singleton.mpr (by with_unfolding_all rfl)
        case h52b =>
          intro z hz hp _
          have hz1 : z ≠ Str.ofString "way" := hp _ (.head _)
          simp only [List.contains_cons, List.contains_nil, Bool.or_false, Bool.or_eq_false_iff, beq_eq_false_iff_ne] at hz
          simp only [if_neg hz.1, if_neg hz.2, if_neg hz1, List.contains_nil, Bool.false_eq_true, if_false]
        case r12b => rw [hstep, wstep_up (by assumption) (by assumption)]; exact strs_butLast hR
      · refine' GenEnd.mk ⟨lw, us, [(lw, listOf us n)]⟩ ?F2c ?N2c ?h12c ?h22c ?h32c ?h42c ?h52c ⟨?r12c, ?r22c⟩
        case F2c => assumption
        case N2c => assumption
        case h12c => intro p hp; rw [List.mem_singleton.mp hp]; exact .head _
        case h22c => intro p hp; repeat (first | exact hp | refine .tail _ ?_)
        case h32c => exact hlo
        case h42c => exact List.forall_mem_singleton.mpr (by with_unfolding_all rfl)
        case h52c =>
          intro z hz hp _
          have hz1 : z ≠ Str.ofString "way" := hp _ (.head _)
          simp only [List.contains_cons, List.contains_nil, Bool.or_false, Bool.or_eq_false_iff, beq_eq_false_iff_ne] at hz
          simp only [if_neg hz.1, if_neg hz.2, if_neg hz1, List.contains_nil, Bool.false_eq_true, if_false]
        case r12c => rw [hstep, wstep_first (by assumption) (by assumption)]; exact hR
        case r22c => exact .inl ⟨n, rfl⟩
      · refine' GenEnd.mk ⟨_, _, [(_, listOf _ 0)]⟩ ?F2d ?N2d ?h12d ?h22d ?h32d ?h42d ?h52d ⟨?r12d, .inl ⟨0, rfl⟩⟩
        case F2d => assumption
        case N2d => assumption
        case h12d => intro p hp; rw [List.mem_singleton.mp hp]; exact .head _
        case h22d => intro p hp; repeat (first | exact hp | refine .tail _ ?_)
        case h32d => intro p hp; rw [List.mem_singleton.mp hp]; first | exact off_of hIo (by assumption : _ ∧ AllLt _ _).2 | exact off_of hIo (by assumption : _ ∧ _ ∧ AllLt _ _).2.2 | exact off_of hIo (allLt_of (by assumption))
        case h42d => exact List.forall_mem_singleton.mpr (by with_unfolding_all rfl)
        case h52d =>
          intro z hz hp _
          have hz1 : z ≠ Str.ofString "way" := hp _ (.head _)
          simp only [List.contains_cons, List.contains_nil, Bool.or_false, Bool.or_eq_false_iff, beq_eq_false_iff_ne] at hz
          simp only [if_neg hz.1, if_neg hz.2, if_neg hz1, List.contains_nil, Bool.false_eq_true, if_false]
        case r12d => rw [hstep, wstep_name (by assumption)]; exact strs_snoc hR
      · refine' GenEnd.mk ⟨_, _, [(_, listOf _ 0)]⟩ ?F2e ?N2e ?h12e ?h22e ?h32e ?h42e ?h52e ⟨?r12e, .inl ⟨0, rfl⟩⟩
        case F2e => assumption
        case N2e => assumption
        case h12e => intro p hp; rw [List.mem_singleton.mp hp]; exact .head _
        case h22e => intro p hp; repeat (first | exact hp | refine .tail _ ?_)
        case h32e => intro p hp; rw [List.mem_singleton.mp hp]; first | exact off_of hIo (by assumption : _ ∧ AllLt _ _).2 | exact off_of hIo (by assumption : _ ∧ _ ∧ AllLt _ _).2.2 | exact off_of hIo (allLt_of (by assumption))
        case h42e => exact List.forall_mem_singleton.mpr (by with_unfolding_all rfl)
        case h52e =>
          intro z hz hp _
          have hz1 : z ≠ Str.ofString "way" := hp _ (.head _)
          simp only [List.contains_cons, List.contains_nil, Bool.or_false, Bool.or_eq_false_iff, beq_eq_false_iff_ne] at hz
          simp only [if_neg hz.1, if_neg hz.2, if_neg hz1, List.contains_nil, Bool.false_eq_true, if_false]
        case r12e => rw [hstep, wstep_up (by assumption) (by assumption)]; exact strs_butLast hR
      · refine' GenEnd.mk ⟨lw, us, []⟩ ?F2f ?N2f ?h12f ?h22f ?h32f ?h42f ?h52f ⟨?r12f, ?r22f⟩
        case F2f => assumption
        case N2f => assumption
        case h12f => exact fun _ h => nomatch h
        case h22f => intro p hp; repeat (first | exact hp | refine .tail _ ?_)
        case h32f => exact fun _ h => nomatch h
        case h42f => exact List.forall_mem_singleton.mpr (by with_unfolding_all rfl)
        case h52f =>
          intro z hz hp _
          have hz1 : z ≠ Str.ofString "way" := hp _ (.head _)
          simp only [List.contains_cons, List.contains_nil, Bool.or_false, Bool.or_eq_false_iff, beq_eq_false_iff_ne] at hz
          simp only [if_neg hz.1, if_neg hz.2, if_neg hz1, List.contains_nil, Bool.false_eq_true, if_false]
        case r12f => rw [hstep, wstep_first (by assumption) (by assumption)]; exact hR
        case r22f => exact .inr ⟨rfl, hl3, .inr (by rw [Nat.add_sub_cancel, hy]; exact congrArg some (is_empty (by assumption)))⟩
    case done2 =>
      rintro ⟨lw, us, nw⟩ u h tk ⟨hR, hW⟩ F2 N2
      dsimp only at hR hW
      change Fr h₀ L _ _ at F2
      change News h₀ L _ _ at N2
      have hlen : pv.toList.length = ps.length := StrsAre.length hP
      rw [hlen] at hR hW
      have hfresh : ∃ n, nw = [(lw, listOf us n)] := by
        rcases hW with h1 | ⟨_, _, h2 | h2⟩
        · exact h1
        · omega
        · exact absurd rfl (hlast _ h2)
      obtain ⟨n, rfl⟩ := hfresh
      dsimp only [kstB] at F2
      clear F1 N1
      show wpAny _ _ _ _ _ _
      k_steps
      repeat (any_goals ((with_reducible refine Stop.on ?_); (first | ((with_reducible show wpAny _ _ (subscriptTail _ _ (Value.ref _) (Value.ref _)) _ _ _); refine' slice_K (by assumption) (by assumption) (by first | exact Fr.lst (by assumption) (by assumption) | exact News.isList (by assumption) (by k_mem)) (by first | exact .none | exact .int _ _) (by first | exact .none | exact .int _ _) (by omega) ?_ (by with_unfolding_all rfl) (by intro _; with_unfolding_all rfl); intro D' h' F' N' l1; (try k_lt l1); (try k_sweep)) | ((with_reducible show wpAny _ _ (binaryOp _ (Value.ref _) (Value.ref _)) _ _ _); refine' add_K (by assumption) (by assumption) (by first | exact Fr.lst (by assumption) (by assumption) | exact News.isList (by assumption) (by k_mem)) (by exact News.isList (by assumption) (by k_mem)) (by (simp only [List.size_toArray, List.length_cons, List.length_nil]); omega) ?_; intro D' h' F' N' l1; (try k_lt l1); (try k_sweep)) | ((with_reducible show wpAny _ _ (subscriptTail _ _ (Value.ref _) (Value.int _ _)) _ _ _); refine' item_strs (by exact Fr.lst (by assumption) (by assumption)) (by assumption) (by decide) (by omega) (by omega) ?_ (by with_unfolding_all rfl); intro t')); k_steps))
      all_goals (refine Back.retN (by assumption) (by assumption) (fun N9 => retStrs_of N9 (.head _) hR))
end Mine
end

section
open PySem PySem.W PyProof.Rows
namespace Mine
set_option maxRecDepth 100000
set_option maxHeartbeats 8000000
set_option rowWalk.seconds 0


local macro_rules | `(tactic| walk_at "mine pad") => `(tactic| skip)
local macro_rules | `(tactic| walk_at "exec While BoolOp cons nil") => `(tactic| refine Stop.here ?_)
local macro_rules | `(tactic| walk_at "call builtin:len") => `(tactic| ((with_reducible show wpAny _ _ (call (Value.builtin "len") [Value.ref _]) _ _ _); refine Stop.here ?_))
local macro_rules | `(tactic| walk_at "subscriptTail Name Name ref int") => `(tactic| (refine Stop.here ?_))
local macro_rules | `(tactic| walk_at "subscriptTail Name Slice ref ref") => `(tactic| (refine Stop.here ?_))
local macro_rules | `(tactic| walk_at "call builtin:str.join") => `(tactic| (refine Stop.here ?_))
theorem spec_told (w : World) (names there : List Str) (nv tv : Array Value) (ln lt : Addr) (hN : StrsAre nv.toList names) (hT : StrsAre tv.toList there) (hne : 0 < there.length) (hw1 : weight names ≤ 3000) (hw2 : weight there ≤ 3000) :
    Spec w 195 [.ref ln, .ref lt] 2 16 (fun h => h.IsList ln nv ∧ h.IsList lt tv) (RetStr (toldT names there)) := by
  have hnl := weight_len names
  have htl := weight_len there
  have hns := size_strs hN
  have hts := size_strs hT
  w_top off
  ((have fk := kfill); revert fk; k_fill; intro fk; clear fk)
  refine' enter [("names", .ref ln), ("there", .ref lt)] ?ho ?hcd ?hbind ?hloc ?_ ?h1 ?h2 ?h3 ?h4 ?h5
  ((case ho => k_is); (case hcd => k_is); (case hbind => intro s; exact BindsTo.of_eq (by with_unfolding_all rfl)); (case hloc => exact locs (by with_unfolding_all rfl)); (case h1 => decide); (case h2 => rfl); (case h3 => rfl); (case h4 => rfl); (case h5 => decide))
  rintro dp outer gd un base h₀ s L mean mg mb B X T hdp hun ⟨hl1, hl2⟩ F N
  simp only [lit_dot]
  k_fold
  k_steps
  repeat (any_goals ((with_reducible refine Stop.on ?_); (first | ((with_reducible show wpAny _ _ (call (Value.builtin "str.join") _) _ _ _); refine' join_strs (by exact News.isList (by assumption) (by k_mem)) (by exact strs_from (by assumption)) (by decide) (by omega) ?_; intro t' k') | ((with_reducible show wpAny _ _ (subscriptTail _ _ (Value.ref _) (Value.ref _)) _ _ _); refine' slice_K (by assumption) (by assumption) (by first | exact Fr.lst (by assumption) (by assumption) | exact News.isList (by assumption) (by k_mem)) (by first | exact .none | exact .int _ _) (by first | exact .none | exact .int _ _) (by omega) ?_ (by with_unfolding_all rfl) (by intro _; with_unfolding_all rfl); intro D' h' F' N' l1; (try k_lt l1); (try k_sweep)) | ((with_reducible show wpAny _ _ (subscriptTail _ _ (Value.ref _) (Value.int _ _)) _ _ _); refine' item_strs (by exact Fr.lst (by assumption) (by assumption)) (by assumption) (by omega) (by omega) (by omega) ?_ (by with_unfolding_all rfl); intro t') | ((with_reducible show wpAny _ _ (call (Value.builtin "len") [Value.ref _]) _ _ _); refine' len_strs (by exact Fr.lst (by assumption) (by assumption)) (by assumption) (by omega) ?_; intro t' k')); k_steps))
  all_goals (try dsimp only)
  · rename Fr _ _ _ _ => F1
    rename News _ _ _ _ => N1
    refine Stop.on ?_
    refine' loopWhile (α := Nat × Tok) (rest := []) (fun a => [(Str.ofString "alike", .int (a.1 : Int) a.2)]) (fun _ => []) (fun n a => n = names.length - a.1 ∧ a.1 ≤ names.length ∧ (a.1 : Int) ≤ there.length - 1 ∧ names.take a.1 = there.take a.1) [] (0, _) (names.length - 0) F1 N1 ?hp ⟨rfl, by simp, by omega, by simp⟩ ?turn (fun _ _ h => h.elim)
    case hp => exact List.forall_mem_singleton.mpr (by with_unfolding_all rfl)
    case turn =>
      rintro n ⟨a, ta⟩ u h tk ⟨hn, ha1, ha2, ha3⟩ F2 N2
      dsimp only at hn ha1 ha2 ha3
      change Fr h₀ L _ _ at F2
      change News h₀ L _ _ at N2
      dsimp only [kstB] at F2
      have hwd := weight_drop a there
      have hjd := join_len_le 46 (there.drop a)
      replace hwd : weight (there.drop a) ≤ 3000 := by omega
      replace hjd : (Str.join (one 46) (there.drop a)).length ≤ 3000 := by omega
      have hol : (one 46).length = 1 := rfl
      show wpAny _ _ _ _ _ _
      k_fold
      k_steps
      repeat (any_goals ((with_reducible refine Stop.on ?_); (first | ((with_reducible show wpAny _ _ (call (Value.builtin "str.join") _) _ _ _); refine' join_strs (by exact News.isList (by assumption) (by k_mem)) (by exact strs_from (by assumption)) (by decide) (by omega) ?_; intro t' k') | ((with_reducible show wpAny _ _ (subscriptTail _ _ (Value.ref _) (Value.ref _)) _ _ _); refine' slice_K (by assumption) (by assumption) (by first | exact Fr.lst (by assumption) (by assumption) | exact News.isList (by assumption) (by k_mem)) (by first | exact .none | exact .int _ _) (by first | exact .none | exact .int _ _) (by omega) ?_ (by with_unfolding_all rfl) (by intro _; with_unfolding_all rfl); intro D' h' F' N' l1; (try k_lt l1); (try k_sweep)) | ((with_reducible show wpAny _ _ (subscriptTail _ _ (Value.ref _) (Value.int _ _)) _ _ _); refine' item_strs (by exact Fr.lst (by assumption) (by assumption)) (by assumption) (by omega) (by omega) (by omega) ?_ (by with_unfolding_all rfl); intro t') | ((with_reducible show wpAny _ _ (call (Value.builtin "len") [Value.ref _]) _ _ _); refine' len_strs (by exact Fr.lst (by assumption) (by assumption)) (by assumption) (by omega) ?_; intro t' k')); k_steps))
      all_goals (try dsimp only)
      all_goals first
        | (refine Back.ret (by assumption) ⟨_, congrArg (Value.str · _) (told_at (alike_end ha1 ha2 ha3 hne ?_))⟩
           first | exact .inl (by omega) | exact .inr (.inl (by omega)) | exact .inr (.inr (getD_ne (by omega) (by omega) (by assumption))))
        | skip
      refine WEnd.mk (names.length - (a + 1)) (by omega) ?_
      refine' GenEnd.mk (a + 1, _) ?F ?N (fun _ h => nomatch h) (fun _ h => nomatch h) (fun _ h => nomatch h) ?h4 ?h5 ⟨rfl, ?r1, ?r2, ?r3⟩
      case F => assumption
      case N => assumption
      case h4 => exact List.forall_mem_singleton.mpr (by with_unfolding_all rfl)
      case h5 =>
        intro z _ hp _
        have hz1 : z ≠ Str.ofString "alike" := hp _ (.head _)
        simp only [if_neg hz1, List.contains_nil, Bool.false_eq_true, if_false]
      case r1 => show a + 1 ≤ _; omega
      case r2 => show ((a + 1 : Nat) : Int) ≤ _; omega
      case r3 => exact take_more ha3 (by omega) (by omega) (by assumption)
end Mine
end

section
open PySem PySem.W PyProof.Rows
namespace Mine
set_option maxRecDepth 100000
set_option maxHeartbeats 8000000
set_option rowWalk.seconds 0
theorem frk {h₀ h : Heap} {L l : Addr} {m : Str → Option Value} {o : Obj} (F : Fr h₀ L h m) (e : h₀.get? l = some o) : h.get? l = some o := F.keep _ _ e
theorem two_strs {a b : Str} {t u : Tok} : ∀ x ∈ (#[.str a t, .str b u] : Array Value).toList, ∃ y t, x = .str y t := by
  intro x hx
  simp only [List.mem_cons, List.not_mem_nil, or_false] at hx
  rcases hx with rfl | rfl
  · exact ⟨_, _, rfl⟩
  · exact ⟨_, _, rfl⟩


local macro_rules | `(tactic| walk_at "call type:map") => `(tactic| (refine Stop.here ?_))
local macro_rules | `(tactic| walk_at "call type:tuple") => `(tactic| (refine Stop.here ?_))
local macro_rules | `(tactic| walk_at "exec Try") => `(tactic| (refine Stop.here ?_))
local macro_rules | `(tactic| walk_at "exec Assign cons ListComp") => `(tactic| refine Stop.here ?_)
local macro_rules | `(tactic| walk_at "call builtin:min") => `(tactic| (refine Stop.here ?_))
local macro_rules | `(tactic| walk_at "call builtin:max") => `(tactic| (refine Stop.here ?_))
local macro_rules | `(tactic| walk_at "exec For Tuple Call cons nil") => `(tactic| refine Stop.here ?_)
local macro_rules | `(tactic| walk_at "subscriptTail Name Name ref int") => `(tactic| (refine Stop.here ?_))
local macro_rules | `(tactic| walk_at "subscriptTail Name Slice ref ref") => `(tactic| (refine Stop.here ?_))
local macro_rules | `(tactic| walk_at "call builtin:str.join") => `(tactic| (refine Stop.here ?_))
local macro_rules | `(tactic| walk_at "call builtin:str.split") => `(tactic| ((with_reducible show wpAny _ _ (call (Value.builtin "str.split") [Value.str _ _, Value.str _ _]) _ _ _); refine Stop.here ?_))
theorem spec_commonpath (w : World) (a b : List Str) (l : Addr) (t u : Tok) (n : Nat) (ha : ∀ c ∈ a, Plain c) (hb : ∀ c ∈ b, Plain c) (hwa : weight a ≤ 3000) (hwb : weight b ≤ 3000) :
    Spec w 155 [.ref l] 3 40 (fun h => h.get? l = some (listOf #[.str (PP a) t, .str (PP b) u] n)) (RetStr (PP (lcp a b))) := by
  have ea := split_PP fun c hc => (ha c hc).1
  have eb := split_PP fun c hc => (hb c hc).1
  have sa := starts_PP a
  have sb := starts_PP b
  have la := PP_weight a
  have lb := PP_weight b
  replace la : (PP a).length ≤ 4096 := by omega
  replace lb : (PP b).length ≤ 4096 := by omega
  have ka := keep_parts ha
  have kb := keep_parts hb
  have na := parts_len a
  have nb := parts_len b
  have pza := @parts_small a
  have pzb := @parts_small b
  replace pza : ∀ c ∈ Str.empty :: parts a, c.length ≤ 4096 := fun c hc => by have := pza c hc; omega
  replace pzb : ∀ c ∈ Str.empty :: parts b, c.length ≤ 4096 := fun c hc => by have := pzb c hc; omega
  generalize Str.empty :: parts a = za at *
  generalize Str.empty :: parts b = zb at *
  generalize PP a = pa at *
  generalize PP b = pb at *
  w_top off
  ((have fk := kfill); revert fk; k_fill; intro fk; clear fk)
  refine' enterC [("paths", .ref l)] ?ho ?hcd ?hbind ?hkind ?hnd ?_ ?h1 ?h2 ?h3 ?h4
  ((case ho => k_is); (case hcd => k_is); (case hbind => intro s; exact BindsTo.of_eq (by with_unfolding_all rfl)); (case hkind => with_unfolding_all rfl); (case hnd => decide); (case h1 => decide); (case h2 => rfl); (case h3 => rfl); (case h4 => rfl))
  rintro dp outer gd un base h₀ s L cells mean mg mb B X T hdp hun hl F N Y
  have hY := CellsAre.two Y
  obtain ⟨o1, o2, rfl, d1, d2⟩ := hY
  clear Y
  replace d1 : o1.data = Data.cell none := d1
  replace d2 : o2.data = Data.cell none := d2
  replace F : Fr h₀ L s.heap (fun y => if y = Str.ofString "paths" then some (.ref l) else none) := F
  simp only [lit_dot, lit_slash]
  show wpAny _ _ _ _ _ _
  k_fold
  k_steps
  repeat (any_goals ((with_reducible refine Stop.on ?_); (first | ((with_reducible show wpAny _ _ (call (Value.builtin "str.split") [Value.str _ _, Value.str _ _]) _ _ _); refine' split_strs (by assumption) (by assumption) (by assumption) (by exact rfl) (by assumption) ?_; intro D' vs' h' k' hS' l1 F' N'; (try k_lt l1); (try k_sweep)) | ((with_reducible show wpAny _ _ (call (Value.builtin "str.join") _) _ _ _); refine' join_strs (by exact News.isList (by assumption) (by k_mem)) (by first | assumption | exact strs_upto (by assumption)) (by decide) (by omega) ?_; intro t' k') | ((with_reducible show wpAny _ _ (subscriptTail _ _ (Value.ref _) (Value.ref _)) _ _ _); refine' slice_K (by assumption) (by assumption) (by exact News.isList (by assumption) (by k_mem)) (by first | exact .none | exact .int _ _) (by first | exact .none | exact .int _ _) (by omega) ?_ (by with_unfolding_all rfl) (by intro _; with_unfolding_all rfl); intro D' h' F' N' l1; (try k_sweep)) | ((with_reducible show wpAny _ _ (subscriptTail _ _ (Value.ref _) (Value.int _ _)) _ _ _); refine' item_strs (by exact News.isList (by assumption) (by k_mem)) (by assumption) (by omega) (by omega) (by omega) ?_ (by with_unfolding_all rfl); intro t') | ((with_reducible show wpAny _ _ (call (Value.builtin "max") _) _ _ _); refine' max_K rfl (by assumption) (by assumption) (by exact units_min (by assumption)) (by k_mem) (by k_mem) (by k_mem) (by assumption) (by assumption) (by assumption) ?_; intro h' k' F' N'; (try k_sweep)) | ((with_reducible show wpAny _ _ (call (Value.builtin "min") _) _ _ _); refine' min_K rfl (by assumption) (by assumption) (by exact units_min (by assumption)) (by k_mem) (by k_mem) (by k_mem) (by assumption) (by assumption) (by assumption) ?_; intro h' k' F' N'; (try k_sweep)) | ((with_reducible show wpAny _ _ (exec (Stmt.Try _ _ _ _ _) _) _ _ _); refine Try_calm ?_) | ((with_reducible show wpAny _ _ (call (Value.type "tuple") _) _ _ _); refine' tuple_fspath (by assumption) (by assumption) (by assumption) (by assumption) (by assumption) (by assumption) (by assumption) (by assumption) (by assumption) (by exact Nat.le_of_ble_eq_true rfl) two_strs (by rfl) (by rfl) (by omega) (by omega) ?_; intro D' h' tk' F' N' l1; (try k_lt l1); (try k_sweep)) | ((with_reducible show wpAny _ _ (call (Value.type "map") _) _ _ _); refine' call_map (by assumption) (by assumption) (by exact frk (by assumption) (by assumption)) ?_; intro M' tp' it' h' F' N' l1 l2 l3; (try k_sweep))); k_steps))
  refine Stop.on ?_
  refine Assign_ListComp_Tup (by assumption) (by rfl) (by with_unfolding_all rfl) (by with_unfolding_all rfl) (by decide) (by rfl) (by decide) (by rfl) (by rfl) (by rfl) ?_
  walk1
  refine TupSrc.ledger rfl (by assumption) (by assumption) (.head _) (Nat.le_of_ble_eq_true rfl) ?_
  intro g'
  lcg_lit
  k_steps
  repeat (any_goals ((with_reducible refine Stop.on ?_); (first | ((with_reducible show wpAny _ _ (call (Value.builtin "str.split") [Value.str _ _, Value.str _ _]) _ _ _); refine' split_strs (by assumption) (by assumption) (by assumption) (by exact rfl) (by assumption) ?_; intro D' vs' h' k' hS' l1 F' N'; (try k_lt l1); (try k_sweep)) | ((with_reducible show wpAny _ _ (call (Value.builtin "str.join") _) _ _ _); refine' join_strs (by exact News.isList (by assumption) (by k_mem)) (by first | assumption | exact strs_upto (by assumption)) (by decide) (by omega) ?_; intro t' k') | ((with_reducible show wpAny _ _ (subscriptTail _ _ (Value.ref _) (Value.ref _)) _ _ _); refine' slice_K (by assumption) (by assumption) (by exact News.isList (by assumption) (by k_mem)) (by first | exact .none | exact .int _ _) (by first | exact .none | exact .int _ _) (by omega) ?_ (by with_unfolding_all rfl) (by intro _; with_unfolding_all rfl); intro D' h' F' N' l1; (try k_sweep)) | ((with_reducible show wpAny _ _ (subscriptTail _ _ (Value.ref _) (Value.int _ _)) _ _ _); refine' item_strs (by exact News.isList (by assumption) (by k_mem)) (by assumption) (by omega) (by omega) (by omega) ?_ (by with_unfolding_all rfl); intro t') | ((with_reducible show wpAny _ _ (call (Value.builtin "max") _) _ _ _); refine' max_K rfl (by assumption) (by assumption) (by exact units_min (by assumption)) (by k_mem) (by k_mem) (by k_mem) (by assumption) (by assumption) (by assumption) ?_; intro h' k' F' N'; (try k_sweep)) | ((with_reducible show wpAny _ _ (call (Value.builtin "min") _) _ _ _); refine' min_K rfl (by assumption) (by assumption) (by exact units_min (by assumption)) (by k_mem) (by k_mem) (by k_mem) (by assumption) (by assumption) (by assumption) ?_; intro h' k' F' N'; (try k_sweep)) | ((with_reducible show wpAny _ _ (exec (Stmt.Try _ _ _ _ _) _) _ _ _); refine Try_calm ?_) | ((with_reducible show wpAny _ _ (call (Value.type "tuple") _) _ _ _); refine' tuple_fspath (by assumption) (by assumption) (by assumption) (by assumption) (by assumption) (by assumption) (by assumption) (by assumption) (by assumption) (by exact Nat.le_of_ble_eq_true rfl) two_strs (by rfl) (by rfl) (by omega) (by omega) ?_; intro D' h' tk' F' N' l1; (try k_lt l1); (try k_sweep)) | ((with_reducible show wpAny _ _ (call (Value.type "map") _) _ _ _); refine' call_map (by assumption) (by assumption) (by exact frk (by assumption) (by assumption)) ?_; intro M' tp' it' h' F' N' l1 l2 l3; (try k_sweep))); k_steps))
  refine SetComp_true (by assumption) (by with_unfolding_all rfl) (by decide) rfl (by decide) rfl ?_
  walk1
  refine ⟨_, _, _, _, rfl, rfl, by assumption, by assumption, by k_mem, Nat.le_of_ble_eq_true rfl, Nat.le_of_ble_eq_true rfl, ?_, ?_⟩
  · intro v I' oI' C' oC' D' oD' m' h' tk' E' hv hC' hx' F' N' off' ne'
    simp only [List.mem_cons, List.not_mem_nil, or_false] at hv
    rcases hv with rfl | rfl
    · k_steps
      repeat (any_goals ((with_reducible refine Stop.on ?_); (first | ((with_reducible show wpAny _ _ (call (Value.builtin "str.split") [Value.str _ _, Value.str _ _]) _ _ _); refine' split_strs (by assumption) (by assumption) (by assumption) (by exact rfl) (by assumption) ?_; intro D' vs' h' k' hS' l1 F' N'; (try k_lt l1); (try k_sweep)) | ((with_reducible show wpAny _ _ (call (Value.builtin "str.join") _) _ _ _); refine' join_strs (by exact News.isList (by assumption) (by k_mem)) (by first | assumption | exact strs_upto (by assumption)) (by decide) (by omega) ?_; intro t' k') | ((with_reducible show wpAny _ _ (subscriptTail _ _ (Value.ref _) (Value.ref _)) _ _ _); refine' slice_K (by assumption) (by assumption) (by exact News.isList (by assumption) (by k_mem)) (by first | exact .none | exact .int _ _) (by first | exact .none | exact .int _ _) (by omega) ?_ (by with_unfolding_all rfl) (by intro _; with_unfolding_all rfl); intro D' h' F' N' l1; (try k_sweep)) | ((with_reducible show wpAny _ _ (subscriptTail _ _ (Value.ref _) (Value.int _ _)) _ _ _); refine' item_strs (by exact News.isList (by assumption) (by k_mem)) (by assumption) (by omega) (by omega) (by omega) ?_ (by with_unfolding_all rfl); intro t') | ((with_reducible show wpAny _ _ (call (Value.builtin "max") _) _ _ _); refine' max_K rfl (by assumption) (by assumption) (by exact units_min (by assumption)) (by k_mem) (by k_mem) (by k_mem) (by assumption) (by assumption) (by assumption) ?_; intro h' k' F' N'; (try k_sweep)) | ((with_reducible show wpAny _ _ (call (Value.builtin "min") _) _ _ _); refine' min_K rfl (by assumption) (by assumption) (by exact units_min (by assumption)) (by k_mem) (by k_mem) (by k_mem) (by assumption) (by assumption) (by assumption) ?_; intro h' k' F' N'; (try k_sweep)) | ((with_reducible show wpAny _ _ (exec (Stmt.Try _ _ _ _ _) _) _ _ _); refine Try_calm ?_) | ((with_reducible show wpAny _ _ (call (Value.type "tuple") _) _ _ _); refine' tuple_fspath (by assumption) (by assumption) (by assumption) (by assumption) (by assumption) (by assumption) (by assumption) (by assumption) (by assumption) (by exact Nat.le_of_ble_eq_true rfl) two_strs (by rfl) (by rfl) (by omega) (by omega) ?_; intro D' h' tk' F' N' l1; (try k_lt l1); (try k_sweep)) | ((with_reducible show wpAny _ _ (call (Value.type "map") _) _ _ _); refine' call_map (by assumption) (by assumption) (by exact frk (by assumption) (by assumption)) ?_; intro M' tp' it' h' F' N' l1 l2 l3; (try k_sweep))); k_steps))
      exact ⟨congrArg Value.bool sa, _, _, rfl, by assumption, by assumption⟩
    · k_steps
      repeat (any_goals ((with_reducible refine Stop.on ?_); (first | ((with_reducible show wpAny _ _ (call (Value.builtin "str.split") [Value.str _ _, Value.str _ _]) _ _ _); refine' split_strs (by assumption) (by assumption) (by assumption) (by exact rfl) (by assumption) ?_; intro D' vs' h' k' hS' l1 F' N'; (try k_lt l1); (try k_sweep)) | ((with_reducible show wpAny _ _ (call (Value.builtin "str.join") _) _ _ _); refine' join_strs (by exact News.isList (by assumption) (by k_mem)) (by first | assumption | exact strs_upto (by assumption)) (by decide) (by omega) ?_; intro t' k') | ((with_reducible show wpAny _ _ (subscriptTail _ _ (Value.ref _) (Value.ref _)) _ _ _); refine' slice_K (by assumption) (by assumption) (by exact News.isList (by assumption) (by k_mem)) (by first | exact .none | exact .int _ _) (by first | exact .none | exact .int _ _) (by omega) ?_ (by with_unfolding_all rfl) (by intro _; with_unfolding_all rfl); intro D' h' F' N' l1; (try k_sweep)) | ((with_reducible show wpAny _ _ (subscriptTail _ _ (Value.ref _) (Value.int _ _)) _ _ _); refine' item_strs (by exact News.isList (by assumption) (by k_mem)) (by assumption) (by omega) (by omega) (by omega) ?_ (by with_unfolding_all rfl); intro t') | ((with_reducible show wpAny _ _ (call (Value.builtin "max") _) _ _ _); refine' max_K rfl (by assumption) (by assumption) (by exact units_min (by assumption)) (by k_mem) (by k_mem) (by k_mem) (by assumption) (by assumption) (by assumption) ?_; intro h' k' F' N'; (try k_sweep)) | ((with_reducible show wpAny _ _ (call (Value.builtin "min") _) _ _ _); refine' min_K rfl (by assumption) (by assumption) (by exact units_min (by assumption)) (by k_mem) (by k_mem) (by k_mem) (by assumption) (by assumption) (by assumption) ?_; intro h' k' F' N'; (try k_sweep)) | ((with_reducible show wpAny _ _ (exec (Stmt.Try _ _ _ _ _) _) _ _ _); refine Try_calm ?_) | ((with_reducible show wpAny _ _ (call (Value.type "tuple") _) _ _ _); refine' tuple_fspath (by assumption) (by assumption) (by assumption) (by assumption) (by assumption) (by assumption) (by assumption) (by assumption) (by assumption) (by exact Nat.le_of_ble_eq_true rfl) two_strs (by rfl) (by rfl) (by omega) (by omega) ?_; intro D' h' tk' F' N' l1; (try k_lt l1); (try k_sweep)) | ((with_reducible show wpAny _ _ (call (Value.type "map") _) _ _ _); refine' call_map (by assumption) (by assumption) (by exact frk (by assumption) (by assumption)) ?_; intro M' tp' it' h' F' N' l1 l2 l3; (try k_sweep))); k_steps))
      exact ⟨congrArg Value.bool sb, _, _, rfl, by assumption, by assumption⟩
  · intro D' h' tk' F' N' l1'
    show wpAny _ _ (assign _ _ _) _ _ _
    refine assign_one rfl F' N' (.head _) rfl rfl ?_
    intro h' tk' F1 N1
    replace F1 : Fr h₀ L _ _ := F1
    replace N1 : News h₀ L _ _ := N1
    replace N1 := News.tail N1
    clear F' N' l1'
    k_steps
    repeat (any_goals ((with_reducible refine Stop.on ?_); (first | ((with_reducible show wpAny _ _ (call (Value.builtin "str.split") [Value.str _ _, Value.str _ _]) _ _ _); refine' split_strs (by assumption) (by assumption) (by assumption) (by exact rfl) (by assumption) ?_; intro D' vs' h' k' hS' l1 F' N'; (try k_lt l1); (try k_sweep)) | ((with_reducible show wpAny _ _ (call (Value.builtin "str.join") _) _ _ _); refine' join_strs (by exact News.isList (by assumption) (by k_mem)) (by first | assumption | exact strs_upto (by assumption)) (by decide) (by omega) ?_; intro t' k') | ((with_reducible show wpAny _ _ (subscriptTail _ _ (Value.ref _) (Value.ref _)) _ _ _); refine' slice_K (by assumption) (by assumption) (by exact News.isList (by assumption) (by k_mem)) (by first | exact .none | exact .int _ _) (by first | exact .none | exact .int _ _) (by omega) ?_ (by with_unfolding_all rfl) (by intro _; with_unfolding_all rfl); intro D' h' F' N' l1; (try k_sweep)) | ((with_reducible show wpAny _ _ (subscriptTail _ _ (Value.ref _) (Value.int _ _)) _ _ _); refine' item_strs (by exact News.isList (by assumption) (by k_mem)) (by assumption) (by omega) (by omega) (by omega) ?_ (by with_unfolding_all rfl); intro t') | ((with_reducible show wpAny _ _ (call (Value.builtin "max") _) _ _ _); refine' max_K rfl (by assumption) (by assumption) (by exact units_min (by assumption)) (by k_mem) (by k_mem) (by k_mem) (by assumption) (by assumption) (by assumption) ?_; intro h' k' F' N'; (try k_sweep)) | ((with_reducible show wpAny _ _ (call (Value.builtin "min") _) _ _ _); refine' min_K rfl (by assumption) (by assumption) (by exact units_min (by assumption)) (by k_mem) (by k_mem) (by k_mem) (by assumption) (by assumption) (by assumption) ?_; intro h' k' F' N'; (try k_sweep)) | ((with_reducible show wpAny _ _ (exec (Stmt.Try _ _ _ _ _) _) _ _ _); refine Try_calm ?_) | ((with_reducible show wpAny _ _ (call (Value.type "tuple") _) _ _ _); refine' tuple_fspath (by assumption) (by assumption) (by assumption) (by assumption) (by assumption) (by assumption) (by assumption) (by assumption) (by assumption) (by exact Nat.le_of_ble_eq_true rfl) two_strs (by rfl) (by rfl) (by omega) (by omega) ?_; intro D' h' tk' F' N' l1; (try k_lt l1); (try k_sweep)) | ((with_reducible show wpAny _ _ (call (Value.type "map") _) _ _ _); refine' call_map (by assumption) (by assumption) (by exact frk (by assumption) (by assumption)) ?_; intro M' tp' it' h' F' N' l1 l2 l3; (try k_sweep))); k_steps))
    refine Stop.on ?_
    refine LCg.Assign_ListComp_U (F₀ := by assumption) (by rfl) (by with_unfolding_all rfl) (by with_unfolding_all rfl) (by decide) (by rfl) (by decide) (by rfl) (by rfl) (by rfl) ?_
    walk1
    refine LCg.CompSrc.ledger rfl (by assumption) (by assumption) (by k_mem) (Nat.le_of_ble_eq_true rfl) ?_
    intro g'
    lcg_lit
    have zsa : za.length ≤ sizeLine := by have : sizeLine = 16777216 := by decide
                                          omega
    have zsb : zb.length ≤ sizeLine := by have : sizeLine = 16777216 := by decide
                                          omega
    refine LCg.CompRest.succ ?_
    intro v I oI C oC D m₂ h tk E' hv hC hx F N off ne
    lcg_open hv
    refine LCt.ListComp_T (F₀ := by assumption) (by with_unfolding_all rfl) (by decide) (by rfl) (by decide) (by rfl) ?_
    walk1
    refine LCt.CompSrcT.ledger rfl (by assumption) (by assumption) (by k_mem) (Nat.le_trans (Nat.le_of_eq (size_strs (by assumption))) (by assumption)) ?_
    intro g2
    refine rest_keep (zs := za) (Or.inr ⟨_, by k_mem, rfl, _, rfl⟩) (by assumption) ?ht ?he ?fin _ 0 [] rfl (Nat.zero_le _) .nil
    case ht =>
      intro y t' I2 oI2 C2 oC2 D2 ys m3 h3 tk3 E3 hy2 hC2 hx2 F2 N2 off2 ne2
      have hyl := pza y hy2
      k_steps
      repeat (any_goals ((with_reducible refine Stop.on ?_); (first | ((with_reducible show wpAny _ _ (call (Value.builtin "str.split") [Value.str _ _, Value.str _ _]) _ _ _); refine' split_strs (by assumption) (by assumption) (by assumption) (by exact rfl) (by assumption) ?_; intro D' vs' h' k' hS' l1 F' N'; (try k_lt l1); (try k_sweep)) | ((with_reducible show wpAny _ _ (call (Value.builtin "str.join") _) _ _ _); refine' join_strs (by exact News.isList (by assumption) (by k_mem)) (by first | assumption | exact strs_upto (by assumption)) (by decide) (by omega) ?_; intro t' k') | ((with_reducible show wpAny _ _ (subscriptTail _ _ (Value.ref _) (Value.ref _)) _ _ _); refine' slice_K (by assumption) (by assumption) (by exact News.isList (by assumption) (by k_mem)) (by first | exact .none | exact .int _ _) (by first | exact .none | exact .int _ _) (by omega) ?_ (by with_unfolding_all rfl) (by intro _; with_unfolding_all rfl); intro D' h' F' N' l1; (try k_sweep)) | ((with_reducible show wpAny _ _ (subscriptTail _ _ (Value.ref _) (Value.int _ _)) _ _ _); refine' item_strs (by exact News.isList (by assumption) (by k_mem)) (by assumption) (by omega) (by omega) (by omega) ?_ (by with_unfolding_all rfl); intro t') | ((with_reducible show wpAny _ _ (call (Value.builtin "max") _) _ _ _); refine' max_K rfl (by assumption) (by assumption) (by exact units_min (by assumption)) (by k_mem) (by k_mem) (by k_mem) (by assumption) (by assumption) (by assumption) ?_; intro h' k' F' N'; (try k_sweep)) | ((with_reducible show wpAny _ _ (call (Value.builtin "min") _) _ _ _); refine' min_K rfl (by assumption) (by assumption) (by exact units_min (by assumption)) (by k_mem) (by k_mem) (by k_mem) (by assumption) (by assumption) (by assumption) ?_; intro h' k' F' N'; (try k_sweep)) | ((with_reducible show wpAny _ _ (exec (Stmt.Try _ _ _ _ _) _) _ _ _); refine Try_calm ?_) | ((with_reducible show wpAny _ _ (call (Value.type "tuple") _) _ _ _); refine' tuple_fspath (by assumption) (by assumption) (by assumption) (by assumption) (by assumption) (by assumption) (by assumption) (by assumption) (by assumption) (by exact Nat.le_of_ble_eq_true rfl) two_strs (by rfl) (by rfl) (by omega) (by omega) ?_; intro D' h' tk' F' N' l1; (try k_lt l1); (try k_sweep)) | ((with_reducible show wpAny _ _ (call (Value.type "map") _) _ _ _); refine' call_map (by assumption) (by assumption) (by exact frk (by assumption) (by assumption)) ?_; intro M' tp' it' h' F' N' l1 l2 l3; (try k_sweep))); k_steps))
      all_goals (first | exact keep_y (by assumption) (by assumption) | exact keep_n (by assumption))
    case he =>
      intro y t' I2 oI2 C2 oC2 D2 ys m3 h3 tk3 E3 hC2 hx2 F2 N2 off2 ne2
      k_steps
      repeat (any_goals ((with_reducible refine Stop.on ?_); (first | ((with_reducible show wpAny _ _ (call (Value.builtin "str.split") [Value.str _ _, Value.str _ _]) _ _ _); refine' split_strs (by assumption) (by assumption) (by assumption) (by exact rfl) (by assumption) ?_; intro D' vs' h' k' hS' l1 F' N'; (try k_lt l1); (try k_sweep)) | ((with_reducible show wpAny _ _ (call (Value.builtin "str.join") _) _ _ _); refine' join_strs (by exact News.isList (by assumption) (by k_mem)) (by first | assumption | exact strs_upto (by assumption)) (by decide) (by omega) ?_; intro t' k') | ((with_reducible show wpAny _ _ (subscriptTail _ _ (Value.ref _) (Value.ref _)) _ _ _); refine' slice_K (by assumption) (by assumption) (by exact News.isList (by assumption) (by k_mem)) (by first | exact .none | exact .int _ _) (by first | exact .none | exact .int _ _) (by omega) ?_ (by with_unfolding_all rfl) (by intro _; with_unfolding_all rfl); intro D' h' F' N' l1; (try k_sweep)) | ((with_reducible show wpAny _ _ (subscriptTail _ _ (Value.ref _) (Value.int _ _)) _ _ _); refine' item_strs (by exact News.isList (by assumption) (by k_mem)) (by assumption) (by omega) (by omega) (by omega) ?_ (by with_unfolding_all rfl); intro t') | ((with_reducible show wpAny _ _ (call (Value.builtin "max") _) _ _ _); refine' max_K rfl (by assumption) (by assumption) (by exact units_min (by assumption)) (by k_mem) (by k_mem) (by k_mem) (by assumption) (by assumption) (by assumption) ?_; intro h' k' F' N'; (try k_sweep)) | ((with_reducible show wpAny _ _ (call (Value.builtin "min") _) _ _ _); refine' min_K rfl (by assumption) (by assumption) (by exact units_min (by assumption)) (by k_mem) (by k_mem) (by k_mem) (by assumption) (by assumption) (by assumption) ?_; intro h' k' F' N'; (try k_sweep)) | ((with_reducible show wpAny _ _ (exec (Stmt.Try _ _ _ _ _) _) _ _ _); refine Try_calm ?_) | ((with_reducible show wpAny _ _ (call (Value.type "tuple") _) _ _ _); refine' tuple_fspath (by assumption) (by assumption) (by assumption) (by assumption) (by assumption) (by assumption) (by assumption) (by assumption) (by assumption) (by exact Nat.le_of_ble_eq_true rfl) two_strs (by rfl) (by rfl) (by omega) (by omega) ?_; intro D' h' tk' F' N' l1; (try k_lt l1); (try k_sweep)) | ((with_reducible show wpAny _ _ (call (Value.type "map") _) _ _ _); refine' call_map (by assumption) (by assumption) (by exact frk (by assumption) (by assumption)) ?_; intro M' tp' it' h' F' N' l1 l2 l3; (try k_sweep))); k_steps))
    intro ysa hysa
    rw [ka] at hysa
    replace hysa : StrsAre (ysa.toArray).toList a := hysa
    unfold LCg.FinE
    intro Da h2 tk2 F2 N2 o2'
    refine end_one F2 N2 off o2' (Or.inr ⟨_, by k_mem, rfl, _, rfl⟩) ?_
    clear hv hC hx F N off ne F2 N2 o2'
    repeat (rename (Value → Shared → Prop) => z; clear z)
    refine LCg.CompRest.succ ?_
    intro v I oI C oC D m₂ h tk E' hv hC hx F N off ne
    lcg_open hv
    refine LCt.ListComp_T (F₀ := by assumption) (by with_unfolding_all rfl) (by decide) (by rfl) (by decide) (by rfl) ?_
    walk1
    refine LCt.CompSrcT.ledger rfl (by assumption) (by assumption) (by k_mem) (Nat.le_trans (Nat.le_of_eq (size_strs (by assumption))) (by assumption)) ?_
    intro g2
    refine rest_keep (zs := zb) (Or.inr ⟨_, by k_mem, rfl, _, rfl⟩) (by assumption) ?ht2 ?he2 ?fin2 _ 0 [] rfl (Nat.zero_le _) .nil
    case ht2 =>
      intro y t' I2 oI2 C2 oC2 D2 ys m3 h3 tk3 E3 hy2 hC2 hx2 F2 N2 off2 ne2
      have hyl := pzb y hy2
      k_steps
      repeat (any_goals ((with_reducible refine Stop.on ?_); (first | ((with_reducible show wpAny _ _ (call (Value.builtin "str.split") [Value.str _ _, Value.str _ _]) _ _ _); refine' split_strs (by assumption) (by assumption) (by assumption) (by exact rfl) (by assumption) ?_; intro D' vs' h' k' hS' l1 F' N'; (try k_lt l1); (try k_sweep)) | ((with_reducible show wpAny _ _ (call (Value.builtin "str.join") _) _ _ _); refine' join_strs (by exact News.isList (by assumption) (by k_mem)) (by first | assumption | exact strs_upto (by assumption)) (by decide) (by omega) ?_; intro t' k') | ((with_reducible show wpAny _ _ (subscriptTail _ _ (Value.ref _) (Value.ref _)) _ _ _); refine' slice_K (by assumption) (by assumption) (by exact News.isList (by assumption) (by k_mem)) (by first | exact .none | exact .int _ _) (by first | exact .none | exact .int _ _) (by omega) ?_ (by with_unfolding_all rfl) (by intro _; with_unfolding_all rfl); intro D' h' F' N' l1; (try k_sweep)) | ((with_reducible show wpAny _ _ (subscriptTail _ _ (Value.ref _) (Value.int _ _)) _ _ _); refine' item_strs (by exact News.isList (by assumption) (by k_mem)) (by assumption) (by omega) (by omega) (by omega) ?_ (by with_unfolding_all rfl); intro t') | ((with_reducible show wpAny _ _ (call (Value.builtin "max") _) _ _ _); refine' max_K rfl (by assumption) (by assumption) (by exact units_min (by assumption)) (by k_mem) (by k_mem) (by k_mem) (by assumption) (by assumption) (by assumption) ?_; intro h' k' F' N'; (try k_sweep)) | ((with_reducible show wpAny _ _ (call (Value.builtin "min") _) _ _ _); refine' min_K rfl (by assumption) (by assumption) (by exact units_min (by assumption)) (by k_mem) (by k_mem) (by k_mem) (by assumption) (by assumption) (by assumption) ?_; intro h' k' F' N'; (try k_sweep)) | ((with_reducible show wpAny _ _ (exec (Stmt.Try _ _ _ _ _) _) _ _ _); refine Try_calm ?_) | ((with_reducible show wpAny _ _ (call (Value.type "tuple") _) _ _ _); refine' tuple_fspath (by assumption) (by assumption) (by assumption) (by assumption) (by assumption) (by assumption) (by assumption) (by assumption) (by assumption) (by exact Nat.le_of_ble_eq_true rfl) two_strs (by rfl) (by rfl) (by omega) (by omega) ?_; intro D' h' tk' F' N' l1; (try k_lt l1); (try k_sweep)) | ((with_reducible show wpAny _ _ (call (Value.type "map") _) _ _ _); refine' call_map (by assumption) (by assumption) (by exact frk (by assumption) (by assumption)) ?_; intro M' tp' it' h' F' N' l1 l2 l3; (try k_sweep))); k_steps))
      all_goals (first | exact keep_y (by assumption) (by assumption) | exact keep_n (by assumption))
    case he2 =>
      intro y t' I2 oI2 C2 oC2 D2 ys m3 h3 tk3 E3 hC2 hx2 F2 N2 off2 ne2
      k_steps
      repeat (any_goals ((with_reducible refine Stop.on ?_); (first | ((with_reducible show wpAny _ _ (call (Value.builtin "str.split") [Value.str _ _, Value.str _ _]) _ _ _); refine' split_strs (by assumption) (by assumption) (by assumption) (by exact rfl) (by assumption) ?_; intro D' vs' h' k' hS' l1 F' N'; (try k_lt l1); (try k_sweep)) | ((with_reducible show wpAny _ _ (call (Value.builtin "str.join") _) _ _ _); refine' join_strs (by exact News.isList (by assumption) (by k_mem)) (by first | assumption | exact strs_upto (by assumption)) (by decide) (by omega) ?_; intro t' k') | ((with_reducible show wpAny _ _ (subscriptTail _ _ (Value.ref _) (Value.ref _)) _ _ _); refine' slice_K (by assumption) (by assumption) (by exact News.isList (by assumption) (by k_mem)) (by first | exact .none | exact .int _ _) (by first | exact .none | exact .int _ _) (by omega) ?_ (by with_unfolding_all rfl) (by intro _; with_unfolding_all rfl); intro D' h' F' N' l1; (try k_sweep)) | ((with_reducible show wpAny _ _ (subscriptTail _ _ (Value.ref _) (Value.int _ _)) _ _ _); refine' item_strs (by exact News.isList (by assumption) (by k_mem)) (by assumption) (by omega) (by omega) (by omega) ?_ (by with_unfolding_all rfl); intro t') | ((with_reducible show wpAny _ _ (call (Value.builtin "max") _) _ _ _); refine' max_K rfl (by assumption) (by assumption) (by exact units_min (by assumption)) (by k_mem) (by k_mem) (by k_mem) (by assumption) (by assumption) (by assumption) ?_; intro h' k' F' N'; (try k_sweep)) | ((with_reducible show wpAny _ _ (call (Value.builtin "min") _) _ _ _); refine' min_K rfl (by assumption) (by assumption) (by exact units_min (by assumption)) (by k_mem) (by k_mem) (by k_mem) (by assumption) (by assumption) (by assumption) ?_; intro h' k' F' N'; (try k_sweep)) | ((with_reducible show wpAny _ _ (exec (Stmt.Try _ _ _ _ _) _) _ _ _); refine Try_calm ?_) | ((with_reducible show wpAny _ _ (call (Value.type "tuple") _) _ _ _); refine' tuple_fspath (by assumption) (by assumption) (by assumption) (by assumption) (by assumption) (by assumption) (by assumption) (by assumption) (by assumption) (by exact Nat.le_of_ble_eq_true rfl) two_strs (by rfl) (by rfl) (by omega) (by omega) ?_; intro D' h' tk' F' N' l1; (try k_lt l1); (try k_sweep)) | ((with_reducible show wpAny _ _ (call (Value.type "map") _) _ _ _); refine' call_map (by assumption) (by assumption) (by exact frk (by assumption) (by assumption)) ?_; intro M' tp' it' h' F' N' l1 l2 l3; (try k_sweep))); k_steps))
    intro ysb hysb
    rw [kb] at hysb
    replace hysb : StrsAre (ysb.toArray).toList b := hysb
    unfold LCg.FinE
    intro Db h2 tk2 F2 N2 o2'
    refine end_one F2 N2 off o2' (Or.inr ⟨_, by k_mem, rfl, _, rfl⟩) ?_
    clear hv hC hx F N off ne F2 N2 o2'
    repeat (rename (Value → Shared → Prop) => z; clear z)
    refine LCg.CompRest.zero ?_
    unfold LCg.FinA
    intro D' h' tk' F1 N1 o1'
    k_sweep
    repeat (rename (Value → Shared → Prop) => z; clear z)
    replace N1 : News h₀ L h' ((D', listOf #[.ref Da, .ref Db] 2) :: (Db, listOf ysb.toArray ysb.length) :: (Da, listOf ysa.toArray ysa.length) :: _) := N1
    obtain ⟨d1, d2, v1, v2, n1, n2, x1, x2, e1, e2, mm, r1, r2, px, lx, w1, w2⟩ := pick (h₀ := h₀) (L := L) (Da := Da) (Db := Db) hysa hysb hwa hwb
    k_steps
    repeat (any_goals ((with_reducible refine Stop.on ?_); (first | ((with_reducible show wpAny _ _ (call (Value.builtin "str.split") [Value.str _ _, Value.str _ _]) _ _ _); refine' split_strs (by assumption) (by assumption) (by assumption) (by exact rfl) (by assumption) ?_; intro D' vs' h' k' hS' l1 F' N'; (try k_lt l1); (try k_sweep)) | ((with_reducible show wpAny _ _ (call (Value.builtin "str.join") _) _ _ _); refine' join_strs (by exact News.isList (by assumption) (by k_mem)) (by first | assumption | exact strs_upto (by assumption)) (by decide) (by omega) ?_; intro t' k') | ((with_reducible show wpAny _ _ (subscriptTail _ _ (Value.ref _) (Value.ref _)) _ _ _); refine' slice_K (by assumption) (by assumption) (by exact News.isList (by assumption) (by k_mem)) (by first | exact .none | exact .int _ _) (by first | exact .none | exact .int _ _) (by omega) ?_ (by with_unfolding_all rfl) (by intro _; with_unfolding_all rfl); intro D' h' F' N' l1; (try k_sweep)) | ((with_reducible show wpAny _ _ (subscriptTail _ _ (Value.ref _) (Value.int _ _)) _ _ _); refine' item_strs (by exact News.isList (by assumption) (by k_mem)) (by assumption) (by omega) (by omega) (by omega) ?_ (by with_unfolding_all rfl); intro t') | ((with_reducible show wpAny _ _ (call (Value.builtin "max") _) _ _ _); refine' max_K rfl (by assumption) (by assumption) (by exact units_min (by assumption)) (by k_mem) (by k_mem) (by k_mem) (by assumption) (by assumption) (by assumption) ?_; intro h' k' F' N'; (try k_sweep)) | ((with_reducible show wpAny _ _ (call (Value.builtin "min") _) _ _ _); refine' min_K rfl (by assumption) (by assumption) (by exact units_min (by assumption)) (by k_mem) (by k_mem) (by k_mem) (by assumption) (by assumption) (by assumption) ?_; intro h' k' F' N'; (try k_sweep)) | ((with_reducible show wpAny _ _ (exec (Stmt.Try _ _ _ _ _) _) _ _ _); refine Try_calm ?_) | ((with_reducible show wpAny _ _ (call (Value.type "tuple") _) _ _ _); refine' tuple_fspath (by assumption) (by assumption) (by assumption) (by assumption) (by assumption) (by assumption) (by assumption) (by assumption) (by assumption) (by exact Nat.le_of_ble_eq_true rfl) two_strs (by rfl) (by rfl) (by omega) (by omega) ?_; intro D' h' tk' F' N' l1; (try k_lt l1); (try k_sweep)) | ((with_reducible show wpAny _ _ (call (Value.type "map") _) _ _ _); refine' call_map (by assumption) (by assumption) (by exact frk (by assumption) (by assumption)) ?_; intro M' tp' it' h' F' N' l1 l2 l3; (try k_sweep))); k_steps))
    rename Fr _ _ _ _ => F2
    rename News _ _ _ _ => N2
    have N3 := News.both (mm _ (News.two (News.tail N2))) (News.tail (News.tail (News.tail (News.tail (News.tail (News.tail (News.tail N2)))))))
    simp only [List.cons_append, List.nil_append] at N3
    clear N2
    refine Stop.on ?_
    refine For_enum (h₀ := h₀) rfl rfl rfl rfl ?_ (fun _ => rfl) (hE := fun _ _ h => h.elim)
    k_fold
    iterate 6 walk1
    have hx1 := StrsAre.length r1
    refine' loopEnum (α := Unit) (vs := v1.toList) (rest := _) (fun _ => []) (fun _ => []) (fun i _ => x1.take i = x2.take i) [] () (by simpa using News.isList N3 (.head _)) (N3 _ (.head _)).2.1 F2 N3 ?hp ?h0 ?turn ?done
    case hp => exact fun _ h => nomatch h
    case h0 => simp
    case turn =>
      rintro i v tt _ u e2 it h tk own hv hR hoff hown hIo F3 N4 hrest
      change Fr h₀ L _ _ at F3
      change News h₀ L _ _ at N4
      obtain ⟨c, ty, rfl, hy⟩ := StrsAre.item r1 _ v hv
      dsimp only [kstB] at F3
      simp only [List.nil_append] at N4
      have N5 := News.both (fun p hp => N4 p (hrest p hp) : News h₀ L h _) N4
      simp only [List.cons_append, List.nil_append] at N5
      clear N4
      have hix : i < x1.length := (List.getElem?_eq_some_iff.mp hy).1
      have hi2 := px i hix hR
      have hcl : c.length ≤ 4096 := by have := weight_get hy; omega
      have hx1l := weight_len x1
      have hx2l := weight_len x2
      have hv1 := size_strs r1
      have hwt := weight_take i x1
      have hjl : (Str.join (one 47) (x1.take i)).length ≤ 4096 := Nat.le_trans (join_len_le 47 _) (by omega)
      clear hv hoff hown
      show wpAny _ _ _ _ _ _
      k_fold
      k_steps
      repeat (any_goals ((with_reducible refine Stop.on ?_); (first | ((with_reducible show wpAny _ _ (call (Value.builtin "str.split") [Value.str _ _, Value.str _ _]) _ _ _); refine' split_strs (by assumption) (by assumption) (by assumption) (by exact rfl) (by assumption) ?_; intro D' vs' h' k' hS' l1 F' N'; (try k_lt l1); (try k_sweep)) | ((with_reducible show wpAny _ _ (call (Value.builtin "str.join") _) _ _ _); refine' join_strs (by exact News.isList (by assumption) (by k_mem)) (by first | assumption | exact strs_upto (by assumption)) (by decide) (by omega) ?_; intro t' k') | ((with_reducible show wpAny _ _ (subscriptTail _ _ (Value.ref _) (Value.ref _)) _ _ _); refine' slice_K (by assumption) (by assumption) (by exact News.isList (by assumption) (by k_mem)) (by first | exact .none | exact .int _ _) (by first | exact .none | exact .int _ _) (by omega) ?_ (by with_unfolding_all rfl) (by intro _; with_unfolding_all rfl); intro D' h' F' N' l1; (try k_sweep)) | ((with_reducible show wpAny _ _ (subscriptTail _ _ (Value.ref _) (Value.int _ _)) _ _ _); refine' item_strs (by exact News.isList (by assumption) (by k_mem)) (by assumption) (by omega) (by omega) (by omega) ?_ (by with_unfolding_all rfl); intro t') | ((with_reducible show wpAny _ _ (call (Value.builtin "max") _) _ _ _); refine' max_K rfl (by assumption) (by assumption) (by exact units_min (by assumption)) (by k_mem) (by k_mem) (by k_mem) (by assumption) (by assumption) (by assumption) ?_; intro h' k' F' N'; (try k_sweep)) | ((with_reducible show wpAny _ _ (call (Value.builtin "min") _) _ _ _); refine' min_K rfl (by assumption) (by assumption) (by exact units_min (by assumption)) (by k_mem) (by k_mem) (by k_mem) (by assumption) (by assumption) (by assumption) ?_; intro h' k' F' N'; (try k_sweep)) | ((with_reducible show wpAny _ _ (exec (Stmt.Try _ _ _ _ _) _) _ _ _); refine Try_calm ?_) | ((with_reducible show wpAny _ _ (call (Value.type "tuple") _) _ _ _); refine' tuple_fspath (by assumption) (by assumption) (by assumption) (by assumption) (by assumption) (by assumption) (by assumption) (by assumption) (by assumption) (by exact Nat.le_of_ble_eq_true rfl) two_strs (by rfl) (by rfl) (by omega) (by omega) ?_; intro D' h' tk' F' N' l1; (try k_lt l1); (try k_sweep)) | ((with_reducible show wpAny _ _ (call (Value.type "map") _) _ _ _); refine' call_map (by assumption) (by assumption) (by exact frk (by assumption) (by assumption)) ?_; intro M' tp' it' h' F' N' l1 l2 l3; (try k_sweep))); k_steps))
      · show wpAny _ _ _ _ _ _
        k_steps
        repeat (any_goals ((with_reducible refine Stop.on ?_); (first | ((with_reducible show wpAny _ _ (call (Value.builtin "str.split") [Value.str _ _, Value.str _ _]) _ _ _); refine' split_strs (by assumption) (by assumption) (by assumption) (by exact rfl) (by assumption) ?_; intro D' vs' h' k' hS' l1 F' N'; (try k_lt l1); (try k_sweep)) | ((with_reducible show wpAny _ _ (call (Value.builtin "str.join") _) _ _ _); refine' join_strs (by exact News.isList (by assumption) (by k_mem)) (by first | assumption | exact strs_upto (by assumption)) (by decide) (by omega) ?_; intro t' k') | ((with_reducible show wpAny _ _ (subscriptTail _ _ (Value.ref _) (Value.ref _)) _ _ _); refine' slice_K (by assumption) (by assumption) (by exact News.isList (by assumption) (by k_mem)) (by first | exact .none | exact .int _ _) (by first | exact .none | exact .int _ _) (by omega) ?_ (by with_unfolding_all rfl) (by intro _; with_unfolding_all rfl); intro D' h' F' N' l1; (try k_sweep)) | ((with_reducible show wpAny _ _ (subscriptTail _ _ (Value.ref _) (Value.int _ _)) _ _ _); refine' item_strs (by exact News.isList (by assumption) (by k_mem)) (by assumption) (by omega) (by omega) (by omega) ?_ (by with_unfolding_all rfl); intro t') | ((with_reducible show wpAny _ _ (call (Value.builtin "max") _) _ _ _); refine' max_K rfl (by assumption) (by assumption) (by exact units_min (by assumption)) (by k_mem) (by k_mem) (by k_mem) (by assumption) (by assumption) (by assumption) ?_; intro h' k' F' N'; (try k_sweep)) | ((with_reducible show wpAny _ _ (call (Value.builtin "min") _) _ _ _); refine' min_K rfl (by assumption) (by assumption) (by exact units_min (by assumption)) (by k_mem) (by k_mem) (by k_mem) (by assumption) (by assumption) (by assumption) ?_; intro h' k' F' N'; (try k_sweep)) | ((with_reducible show wpAny _ _ (exec (Stmt.Try _ _ _ _ _) _) _ _ _); refine Try_calm ?_) | ((with_reducible show wpAny _ _ (call (Value.type "tuple") _) _ _ _); refine' tuple_fspath (by assumption) (by assumption) (by assumption) (by assumption) (by assumption) (by assumption) (by assumption) (by assumption) (by assumption) (by exact Nat.le_of_ble_eq_true rfl) two_strs (by rfl) (by rfl) (by omega) (by omega) ?_; intro D' h' tk' F' N' l1; (try k_lt l1); (try k_sweep)) | ((with_reducible show wpAny _ _ (call (Value.type "map") _) _ _ _); refine' call_map (by assumption) (by assumption) (by exact frk (by assumption) (by assumption)) ?_; intro M' tp' it' h' F' N' l1 l2 l3; (try k_sweep))); k_steps))
        exact Back.ret (by assumption) ⟨_, congrArg (Value.str · _) (fork_break lx hR hy hi2 (by assumption))⟩
      · change GenEnd _ _ _ _ _ _ _ _ _ _ _ _
        refine GenEnd.mk () (by assumption) (by assumption) (fun _ h => nomatch h) (fun p hp => .tail _ (.tail _ (.tail _ (.tail _ hp)))) (fun _ h => nomatch h) (fun _ h => nomatch h) (fun z h1 _ _ => ?_) (fork_on hR hy hi2 (by assumption))
        simp only [List.contains_cons, List.contains_nil, Bool.or_false, Bool.or_eq_false_iff, beq_eq_false_iff_ne] at h1
        simp only [if_neg h1.1, if_neg h1.2, List.contains_nil, Bool.false_eq_true, if_false]
    case done =>
      rintro _ u h tk hR F3 N4
      change Fr h₀ L _ _ at F3
      change News h₀ L _ _ at N4
      dsimp only [kstB] at F3
      simp only [List.nil_append] at N4
      have hjl : (Str.join (one 47) x1).length ≤ 4096 := Nat.le_trans (join_len_le 47 _) (by omega)
      show wpAny _ _ _ _ _ _
      k_steps
      repeat (any_goals ((with_reducible refine Stop.on ?_); (first | ((with_reducible show wpAny _ _ (call (Value.builtin "str.split") [Value.str _ _, Value.str _ _]) _ _ _); refine' split_strs (by assumption) (by assumption) (by assumption) (by exact rfl) (by assumption) ?_; intro D' vs' h' k' hS' l1 F' N'; (try k_lt l1); (try k_sweep)) | ((with_reducible show wpAny _ _ (call (Value.builtin "str.join") _) _ _ _); refine' join_strs (by exact News.isList (by assumption) (by k_mem)) (by first | assumption | exact strs_upto (by assumption)) (by decide) (by omega) ?_; intro t' k') | ((with_reducible show wpAny _ _ (subscriptTail _ _ (Value.ref _) (Value.ref _)) _ _ _); refine' slice_K (by assumption) (by assumption) (by exact News.isList (by assumption) (by k_mem)) (by first | exact .none | exact .int _ _) (by first | exact .none | exact .int _ _) (by omega) ?_ (by with_unfolding_all rfl) (by intro _; with_unfolding_all rfl); intro D' h' F' N' l1; (try k_sweep)) | ((with_reducible show wpAny _ _ (subscriptTail _ _ (Value.ref _) (Value.int _ _)) _ _ _); refine' item_strs (by exact News.isList (by assumption) (by k_mem)) (by assumption) (by omega) (by omega) (by omega) ?_ (by with_unfolding_all rfl); intro t') | ((with_reducible show wpAny _ _ (call (Value.builtin "max") _) _ _ _); refine' max_K rfl (by assumption) (by assumption) (by exact units_min (by assumption)) (by k_mem) (by k_mem) (by k_mem) (by assumption) (by assumption) (by assumption) ?_; intro h' k' F' N'; (try k_sweep)) | ((with_reducible show wpAny _ _ (call (Value.builtin "min") _) _ _ _); refine' min_K rfl (by assumption) (by assumption) (by exact units_min (by assumption)) (by k_mem) (by k_mem) (by k_mem) (by assumption) (by assumption) (by assumption) ?_; intro h' k' F' N'; (try k_sweep)) | ((with_reducible show wpAny _ _ (exec (Stmt.Try _ _ _ _ _) _) _ _ _); refine Try_calm ?_) | ((with_reducible show wpAny _ _ (call (Value.type "tuple") _) _ _ _); refine' tuple_fspath (by assumption) (by assumption) (by assumption) (by assumption) (by assumption) (by assumption) (by assumption) (by assumption) (by assumption) (by exact Nat.le_of_ble_eq_true rfl) two_strs (by rfl) (by rfl) (by omega) (by omega) ?_; intro D' h' tk' F' N' l1; (try k_lt l1); (try k_sweep)) | ((with_reducible show wpAny _ _ (call (Value.type "map") _) _ _ _); refine' call_map (by assumption) (by assumption) (by exact frk (by assumption) (by assumption)) ?_; intro M' tp' it' h' F' N' l1 l2 l3; (try k_sweep))); k_steps))
      exact Back.ret (by assumption) ⟨_, congrArg (Value.str · _) (fork_end lx hx1 hR)⟩
end Mine
end

section
open PySem PySem.W PyProof.Rows
namespace Mine
set_option maxRecDepth 100000
set_option maxHeartbeats 8000000
set_option rowWalk.seconds 0


local macro_rules | `(tactic| walk_at "exec While Compare cons nil") => `(tactic| refine Stop.here ?_)
local macro_rules | `(tactic| walk_at "call ref") => `(tactic| (refine Stop.here ?_))


structure BackSt where
  st : Str
  t1 : Tok
  dots : Str
  t2 : Tok
structure BackSt2 where
  g : Str
  t1 : Tok
  lb : Addr
  us : Array Value
  n : Nat
local macro_rules | `(tactic| walk_at "binaryOp Add ref ref") => `(tactic| (refine Stop.here ?_))
local macro_rules | `(tactic| walk_at "call builtin:str.join") => `(tactic| (refine Stop.here ?_))
theorem spec_back (w : World) (names td : List Str) (last : Str) (t u : Tok) (hn : ∀ c ∈ names, Plain c) (ht : ∀ c ∈ td ++ [last], Plain c) (hw1 : weight names ≤ 3000) (hw2 : weight (td ++ [last]) ≤ 3000) :
    Spec w 188 [.str (PP names) t, .str (PP (td ++ [last])) u] 5 60 (fun _ => True) (RetStr (toldT names (td ++ [last]))) := by
  have hnc : ∀ c ∈ names, Comp c := fun c h => (hn c h).1
  have htc : ∀ c ∈ td ++ [last], Comp c := fun c h => (ht c h).1
  have htd : ∀ c ∈ td, Plain c := fun c h => ht c (List.mem_append_left _ h)
  have hwtd : weight td ≤ 3000 := by have := weight_app td [last]; omega
  have hl1 := PP_weight names
  have hl2 := PP_weight (td ++ [last])
  replace hl1 : (PP names).length ≤ 4096 := by omega
  replace hl2 : (PP (td ++ [last])).length ≤ 4096 := by omega
  w_top off
  ((have fk := kfill); revert fk; k_fill; intro fk; clear fk)
  refine' enter [("stand", .str (PP names) t), ("goal", .str (PP (td ++ [last])) u)] ?ho ?hcd ?hbind ?hloc ?_ ?h1 ?h2 ?h3 ?h4 ?h5
  ((case ho => k_is); (case hcd => k_is); (case hbind => intro s; exact BindsTo.of_eq (by with_unfolding_all rfl)); (case hloc => exact locs (by with_unfolding_all rfl)); (case h1 => decide); (case h2 => rfl); (case h3 => rfl); (case h4 => rfl); (case h5 => decide))
  rintro dp outer gd un base h₀ s L mean mg mb B X T hdp hun _ F N
  simp only [lit_dot]
  k_fold
  k_steps
  repeat (any_goals ((with_reducible refine Stop.on ?_); (first | ((with_reducible show wpAny _ _ (call (Value.builtin "str.join") _) _ _ _); refine' join_strs (by exact News.isList (by assumption) (by k_mem)) (by assumption) (by decide) (by omega) ?_; intro t' k') | ((with_reducible show wpAny _ _ (binaryOp _ (Value.ref _) (Value.ref _)) _ _ _); refine' add_K (by assumption) (by assumption) (by exact News.isList (by assumption) (by k_mem)) (by exact News.isList (by assumption) (by k_mem)) (by (simp only [List.size_toArray, List.length_cons, List.length_nil]); omega) ?_; intro D' h' F' N' l1; (try k_lt l1); (try k_sweep)) | ((with_reducible show wpAny _ _ (call (Value.ref 155) [Value.ref _]) _ _ _); k_dflt (refine' Spec.useS (spec_commonpath _ _ _ _ _ _ _ ?ha ?hb ?hwa ?hwb) ?B ?X ?T ?F ?N ?pre rfl ?d ?u ?_; (case B => assumption); (case X => assumption); (case T => assumption); (case F => assumption); (case N => assumption); (case pre => exact News.get (by assumption) (by k_mem)); (case ha => assumption); (case hb => assumption); (case hwa => assumption); (case hwb => assumption); (case d => omega); (case u => omega)); intro t' h' tk' F' N'; (try k_sweep)) | ((with_reducible show wpAny _ _ (call (Value.ref 129) [Value.str (PP (_ ++ _)) _]) _ _ _); refine' Spec.useP (spec_split _ _ _ _ (by assumption) (by assumption)) (by assumption) (by assumption) (by assumption) (by assumption) (by assumption) trivial rfl (by omega) (by omega) ?_; intro l' t' u' h' tk' F' N' l1; (try k_sweep)) | ((with_reducible show wpAny _ _ (call (Value.ref 143) [Value.str (PP (_ ++ _)) _]) _ _ _); refine' Spec.useS (spec_dirname _ _ _ _ (by assumption) (by assumption)) (by assumption) (by assumption) (by assumption) (by assumption) (by assumption) trivial rfl (by omega) (by omega) ?_; intro t' h' tk' F' N'; (try k_sweep))); k_steps))
  all_goals (try dsimp only)
  · rename Fr _ _ _ _ => F1
    rename News _ _ _ _ => N1
    refine Stop.on ?_
    have hk := lcp_le names td
    have hfk := lcp_left names td
    have hfk2 := lcp_right names td
    have hak : alikeN names (td ++ [last]) = (lcp names td).length := by unfold alikeN; rw [List.dropLast_concat]
    generalize lcp names td = fk at *
    have hfc : ∀ c ∈ fk, Comp c := fun c hc => hnc c (List.mem_of_mem_take (by rw [hfk]; exact hc))
    have hfl : (PP fk).length ≤ 4096 := by have := PP_weight fk; have := weight_take fk.length names; rw [hfk] at this; omega
    refine' loopWhile (α := BackSt) (rest := _) (fun a => [(Str.ofString "stand", .str a.st a.t1), (Str.ofString "dots", .str a.dots a.t2)]) (fun _ => []) (fun n a => ∃ j, a.st = PP (names.take j) ∧ fk.length ≤ j ∧ j ≤ names.length ∧ tl a.dots = List.replicate (names.length - j + 1) 46 ∧ n = j - fk.length) [] ⟨PP names, _, one 46, _⟩ (names.length - fk.length) F1 N1 ?hp ⟨names.length, by simp, hk.1, Nat.le_refl _, by simp, rfl⟩ ?turn (fun _ _ h => h.elim)
    case hp =>
      intro p hp
      simp only [List.mem_cons, List.not_mem_nil, or_false] at hp
      rcases hp with rfl | rfl
      · with_unfolding_all rfl
      · with_unfolding_all rfl
    case turn =>
      rintro n ⟨st, t1, dots, t2⟩ u1 h tk ⟨j, hst, hj1, hj2, hdots, hn'⟩ F2 N2
      dsimp only at hst hdots
      subst hst
      change Fr h₀ L _ _ at F2
      change News h₀ L _ _ at N2
      dsimp only [kstB] at F2
      have hdl : dots.length ≤ 4096 := by rw [tl_len, hdots, List.length_replicate]; have := weight_len names; omega
      have hol : (one 46).length = 1 := rfl
      have hjl : (PP (names.take j)).length ≤ 4096 := by have := PP_weight (names.take j); have := weight_take j names; omega
      by_cases hjk : j = fk.length
      · subst hjk
        rw [hfk] at F2 hjl
        have hno : (PP fk != PP fk) = true → False := by simp
        show wpAny _ _ _ _ _ _
        k_fold
        k_steps
        repeat (any_goals ((with_reducible refine Stop.on ?_); (first | ((with_reducible show wpAny _ _ (call (Value.builtin "str.join") _) _ _ _); refine' join_strs (by exact News.isList (by assumption) (by k_mem)) (by assumption) (by decide) (by omega) ?_; intro t' k') | ((with_reducible show wpAny _ _ (binaryOp _ (Value.ref _) (Value.ref _)) _ _ _); refine' add_K (by assumption) (by assumption) (by exact News.isList (by assumption) (by k_mem)) (by exact News.isList (by assumption) (by k_mem)) (by (simp only [List.size_toArray, List.length_cons, List.length_nil]); omega) ?_; intro D' h' F' N' l1; (try k_lt l1); (try k_sweep)) | ((with_reducible show wpAny _ _ (call (Value.ref 155) [Value.ref _]) _ _ _); k_dflt (refine' Spec.useS (spec_commonpath _ _ _ _ _ _ _ ?ha ?hb ?hwa ?hwb) ?B ?X ?T ?F ?N ?pre rfl ?d ?u ?_; (case B => assumption); (case X => assumption); (case T => assumption); (case F => assumption); (case N => assumption); (case pre => exact News.get (by assumption) (by k_mem)); (case ha => assumption); (case hb => assumption); (case hwa => assumption); (case hwb => assumption); (case d => omega); (case u => omega)); intro t' h' tk' F' N'; (try k_sweep)) | ((with_reducible show wpAny _ _ (call (Value.ref 129) [Value.str (PP (_ ++ _)) _]) _ _ _); refine' Spec.useP (spec_split _ _ _ _ (by assumption) (by assumption)) (by assumption) (by assumption) (by assumption) (by assumption) (by assumption) trivial rfl (by omega) (by omega) ?_; intro l' t' u' h' tk' F' N' l1; (try k_sweep)) | ((with_reducible show wpAny _ _ (call (Value.ref 143) [Value.str (PP (_ ++ _)) _]) _ _ _); refine' Spec.useS (spec_dirname _ _ _ _ (by assumption) (by assumption)) (by assumption) (by assumption) (by assumption) (by assumption) (by assumption) trivial rfl (by omega) (by omega) ?_; intro t' h' tk' F' N'; (try k_sweep))); k_steps))
        all_goals (try dsimp only)
        all_goals first
          | exact (hno (by assumption)).elim
          | skip
        rename Fr _ _ _ _ => F3
        rename News _ _ _ _ => N3
        refine Stop.on ?_
        have hfk3 : (td ++ [last]).take fk.length = fk := by rw [List.take_append_of_le_length hk.2]; exact hfk2
        have htl : (td ++ [last]).length = td.length + 1 := by simp
        have hdr := told_at hak
        obtain ⟨thr, hthr⟩ : ∃ thr, thr = td ++ [last] := ⟨_, rfl⟩
        rw [← hthr] at ht hw2 htc hl2 hak hfk3 htl hdr F3
        have htw := weight_len thr
        refine' loopWhile (α := BackSt2) (rest := _) (fun a => [(Str.ofString "goal", .str a.g a.t1), (Str.ofString "names", .ref a.lb)]) (fun a => [(a.lb, listOf a.us a.n)]) (fun n a => ∃ i, a.g = PP (thr.take i) ∧ fk.length ≤ i ∧ i ≤ thr.length ∧ StrsAre a.us.toList (thr.drop i) ∧ n = i - fk.length) [Str.ofString "name"] ⟨PP thr, _, _, #[], 0⟩ (thr.length - fk.length) F3 N3 ?hp2 ⟨thr.length, by simp, by omega, Nat.le_refl _, by rw [List.drop_length]; exact .nil, rfl⟩ ?turn2 (fun _ _ h => h.elim)
        case hp2 =>
          intro p hp
          simp only [List.mem_cons, List.not_mem_nil, or_false] at hp
          rcases hp with rfl | rfl
          · with_unfolding_all rfl
          · with_unfolding_all rfl
        case turn2 =>
          rintro n ⟨g, t3, lb, us, nn⟩ u2 h5 tk5 ⟨i, hg, hi1, hi2, hS, hn5⟩ F4 N4
          dsimp only at hg hS
          subst hg
          change Fr h₀ L _ _ at F4
          change News h₀ L _ _ at N4
          dsimp only [kstB] at F4
          simp only [List.nil_append, List.cons_append] at N4
          have hus := size_strs hS
          replace hus : us.size ≤ 4000 := by rw [List.length_drop] at hus; omega
          have hwd := weight_drop i thr
          replace hwd : weight (thr.drop i) ≤ 3000 := by omega
          have hjd := join_len_le 46 (thr.drop i)
          replace hjd : (Str.join (one 46) (thr.drop i)).length ≤ 3000 := by omega
          have hil : (PP (thr.take i)).length ≤ 4096 := by have := PP_weight (thr.take i); have := weight_take i thr; omega
          clear F3 N3
          by_cases hik : i = fk.length
          · subst hik
            rw [hfk3] at F4 hil
            show wpAny _ _ _ _ _ _
            k_fold
            k_steps
            repeat (any_goals ((with_reducible refine Stop.on ?_); (first | ((with_reducible show wpAny _ _ (call (Value.builtin "str.join") _) _ _ _); refine' join_strs (by exact News.isList (by assumption) (by k_mem)) (by assumption) (by decide) (by omega) ?_; intro t' k') | ((with_reducible show wpAny _ _ (binaryOp _ (Value.ref _) (Value.ref _)) _ _ _); refine' add_K (by assumption) (by assumption) (by exact News.isList (by assumption) (by k_mem)) (by exact News.isList (by assumption) (by k_mem)) (by (simp only [List.size_toArray, List.length_cons, List.length_nil]); omega) ?_; intro D' h' F' N' l1; (try k_lt l1); (try k_sweep)) | ((with_reducible show wpAny _ _ (call (Value.ref 155) [Value.ref _]) _ _ _); k_dflt (refine' Spec.useS (spec_commonpath _ _ _ _ _ _ _ ?ha ?hb ?hwa ?hwb) ?B ?X ?T ?F ?N ?pre rfl ?d ?u ?_; (case B => assumption); (case X => assumption); (case T => assumption); (case F => assumption); (case N => assumption); (case pre => exact News.get (by assumption) (by k_mem)); (case ha => assumption); (case hb => assumption); (case hwa => assumption); (case hwb => assumption); (case d => omega); (case u => omega)); intro t' h' tk' F' N'; (try k_sweep)) | ((with_reducible show wpAny _ _ (call (Value.ref 129) [Value.str (PP (_ ++ _)) _]) _ _ _); refine' Spec.useP (spec_split _ _ _ _ (by assumption) (by assumption)) (by assumption) (by assumption) (by assumption) (by assumption) (by assumption) trivial rfl (by omega) (by omega) ?_; intro l' t' u' h' tk' F' N' l1; (try k_sweep)) | ((with_reducible show wpAny _ _ (call (Value.ref 143) [Value.str (PP (_ ++ _)) _]) _ _ _); refine' Spec.useS (spec_dirname _ _ _ _ (by assumption) (by assumption)) (by assumption) (by assumption) (by assumption) (by assumption) (by assumption) trivial rfl (by omega) (by omega) ?_; intro t' h' tk' F' N'; (try k_sweep))); k_steps))
            all_goals (try dsimp only)
            all_goals first
              | exact (hno (by assumption)).elim
              | (refine Back.ret (by assumption) ⟨_, congrArg (Value.str · _) ?_⟩
                 rw [← hthr, ← hdr, dots_eq hdots (n := (names.length : Int) - (fk.length : Int) + 1) (by omega)])
          · obtain ⟨nm, hnm, hnm2⟩ := take_pred (names := thr) (j := i) (by omega) hi2
            rw [hnm] at F4 hil
            have hcs : ∀ c ∈ thr.take (i - 1) ++ [nm], Comp c := fun c hc => htc c (List.mem_of_mem_take (by rw [hnm]; exact hc))
            have hno2 : (PP (thr.take (i - 1) ++ [nm]) != PP fk) = false → False := fun e => by
              have e2 : PP (thr.take (i - 1) ++ [nm]) = PP fk := by simpa using e
              have e3 := congrArg List.length (PP_inj hcs hfc e2)
              rw [← hnm, List.length_take] at e3
              omega
            have hdp2 := drop_pred (by omega) hnm2
            show wpAny _ _ _ _ _ _
            k_fold
            k_steps
            repeat (any_goals ((with_reducible refine Stop.on ?_); (first | ((with_reducible show wpAny _ _ (call (Value.builtin "str.join") _) _ _ _); refine' join_strs (by exact News.isList (by assumption) (by k_mem)) (by assumption) (by decide) (by omega) ?_; intro t' k') | ((with_reducible show wpAny _ _ (binaryOp _ (Value.ref _) (Value.ref _)) _ _ _); refine' add_K (by assumption) (by assumption) (by exact News.isList (by assumption) (by k_mem)) (by exact News.isList (by assumption) (by k_mem)) (by (simp only [List.size_toArray, List.length_cons, List.length_nil]); omega) ?_; intro D' h' F' N' l1; (try k_lt l1); (try k_sweep)) | ((with_reducible show wpAny _ _ (call (Value.ref 155) [Value.ref _]) _ _ _); k_dflt (refine' Spec.useS (spec_commonpath _ _ _ _ _ _ _ ?ha ?hb ?hwa ?hwb) ?B ?X ?T ?F ?N ?pre rfl ?d ?u ?_; (case B => assumption); (case X => assumption); (case T => assumption); (case F => assumption); (case N => assumption); (case pre => exact News.get (by assumption) (by k_mem)); (case ha => assumption); (case hb => assumption); (case hwa => assumption); (case hwb => assumption); (case d => omega); (case u => omega)); intro t' h' tk' F' N'; (try k_sweep)) | ((with_reducible show wpAny _ _ (call (Value.ref 129) [Value.str (PP (_ ++ _)) _]) _ _ _); refine' Spec.useP (spec_split _ _ _ _ (by assumption) (by assumption)) (by assumption) (by assumption) (by assumption) (by assumption) (by assumption) trivial rfl (by omega) (by omega) ?_; intro l' t' u' h' tk' F' N' l1; (try k_sweep)) | ((with_reducible show wpAny _ _ (call (Value.ref 143) [Value.str (PP (_ ++ _)) _]) _ _ _); refine' Spec.useS (spec_dirname _ _ _ _ (by assumption) (by assumption)) (by assumption) (by assumption) (by assumption) (by assumption) (by assumption) trivial rfl (by omega) (by omega) ?_; intro t' h' tk' F' N'; (try k_sweep))); k_steps))
            all_goals (try dsimp only)
            all_goals first
              | exact (hno2 (by assumption)).elim
              | skip
            refine WEnd.mk (i - 1 - fk.length) (by omega) ?_
            refine' GenEnd.mk ⟨_, _, _, _, 0⟩ ?F2 ?N2 ?g1 ?g2 (fun _ _ h => nomatch h) ?g4 ?g5 ⟨i - 1, ?q1, by omega, by omega, ?q2, rfl⟩
            case F2 => assumption
            case N2 => assumption
            case g1 => intro p hp; rw [List.mem_singleton.mp hp]; exact .head _
            case g2 => exact fun p hp => .tail _ (.tail _ (.tail _ (.tail _ hp)))
            case g4 =>
              intro p hp
              simp only [List.mem_cons, List.not_mem_nil, or_false] at hp
              rcases hp with rfl | rfl
              · with_unfolding_all rfl
              · with_unfolding_all rfl
            case q1 => exact rfl
            case q2 => rw [hdp2]; exact .cons _ _ hS
            case g5 =>
              intro z _ hp hs
              have hz1 : z ≠ Str.ofString "goal" := hp _ (.head _)
              have hz2 : z ≠ Str.ofString "names" := hp _ (.tail _ (.head _))
              have hz3 : z ≠ Str.ofString "name" := by simpa using hs
              simp only [if_neg hz1, if_neg hz2, if_neg hz3, hs, Bool.false_eq_true, if_false]
      · obtain ⟨nm, hnm, hnm2⟩ := take_pred (names := names) (j := j) (by omega) hj2
        rw [hnm] at F2 hjl
        have hcs : ∀ c ∈ names.take (j - 1) ++ [nm], Comp c := fun c hc => hnc c (List.mem_of_mem_take (by rw [hnm]; exact hc))
        have hno : (PP (names.take (j - 1) ++ [nm]) != PP fk) = false → False := fun e => by
          have e2 : PP (names.take (j - 1) ++ [nm]) = PP fk := by simpa using e
          have e3 := congrArg List.length (PP_inj hcs hfc e2)
          rw [← hnm, List.length_take] at e3
          omega
        show wpAny _ _ _ _ _ _
        k_fold
        k_steps
        repeat (any_goals ((with_reducible refine Stop.on ?_); (first | ((with_reducible show wpAny _ _ (call (Value.builtin "str.join") _) _ _ _); refine' join_strs (by exact News.isList (by assumption) (by k_mem)) (by assumption) (by decide) (by omega) ?_; intro t' k') | ((with_reducible show wpAny _ _ (binaryOp _ (Value.ref _) (Value.ref _)) _ _ _); refine' add_K (by assumption) (by assumption) (by exact News.isList (by assumption) (by k_mem)) (by exact News.isList (by assumption) (by k_mem)) (by (simp only [List.size_toArray, List.length_cons, List.length_nil]); omega) ?_; intro D' h' F' N' l1; (try k_lt l1); (try k_sweep)) | ((with_reducible show wpAny _ _ (call (Value.ref 155) [Value.ref _]) _ _ _); k_dflt (refine' Spec.useS (spec_commonpath _ _ _ _ _ _ _ ?ha ?hb ?hwa ?hwb) ?B ?X ?T ?F ?N ?pre rfl ?d ?u ?_; (case B => assumption); (case X => assumption); (case T => assumption); (case F => assumption); (case N => assumption); (case pre => exact News.get (by assumption) (by k_mem)); (case ha => assumption); (case hb => assumption); (case hwa => assumption); (case hwb => assumption); (case d => omega); (case u => omega)); intro t' h' tk' F' N'; (try k_sweep)) | ((with_reducible show wpAny _ _ (call (Value.ref 129) [Value.str (PP (_ ++ _)) _]) _ _ _); refine' Spec.useP (spec_split _ _ _ _ (by assumption) (by assumption)) (by assumption) (by assumption) (by assumption) (by assumption) (by assumption) trivial rfl (by omega) (by omega) ?_; intro l' t' u' h' tk' F' N' l1; (try k_sweep)) | ((with_reducible show wpAny _ _ (call (Value.ref 143) [Value.str (PP (_ ++ _)) _]) _ _ _); refine' Spec.useS (spec_dirname _ _ _ _ (by assumption) (by assumption)) (by assumption) (by assumption) (by assumption) (by assumption) (by assumption) trivial rfl (by omega) (by omega) ?_; intro t' h' tk' F' N'; (try k_sweep))); k_steps))
        all_goals (try dsimp only)
        all_goals first
          | exact (hno (by assumption)).elim
          | skip
        refine WEnd.mk (j - 1 - fk.length) (by omega) ?_
        refine' GenEnd.mk ⟨_, _, _, _⟩ ?F ?N (fun _ h => nomatch h) ?h2 (fun _ h => nomatch h) ?h4 ?h5 ⟨j - 1, ?r1, by omega, by omega, ?r2, rfl⟩
        case F => assumption
        case N => assumption
        case h2 => exact fun p hp => hp
        case h4 =>
          intro p hp
          simp only [List.mem_cons, List.not_mem_nil, or_false] at hp
          rcases hp with rfl | rfl
          · with_unfolding_all rfl
          · with_unfolding_all rfl
        case r1 => exact rfl
        case r2 =>
          refine (dots_more hdots).trans ?_
          congr 1
          omega
        case h5 =>
          intro z _ hp _
          have hz1 : z ≠ Str.ofString "stand" := hp _ (.head _)
          have hz2 : z ≠ Str.ofString "dots" := hp _ (.tail _ (.head _))
          simp only [if_neg hz1, if_neg hz2, List.contains_nil, Bool.false_eq_true, if_false]
end Mine
end

section
open PySem PySem.W PyProof.Rows
namespace Mine
set_option maxRecDepth 100000
set_option maxHeartbeats 8000000
set_option rowWalk.seconds 0


local macro_rules | `(tactic| walk_at "exec Assign cons ListComp") => `(tactic| refine Stop.here ?_)
local macro_rules | `(tactic| walk_at "CompSrc") => `(tactic| refine Stop.here ?_)
local macro_rules | `(tactic| walk_at "subscriptTail Name BinOp ref int") => `(tactic| (refine Stop.here ?_))
local macro_rules | `(tactic| walk_at "binaryOp Mult ref int") => `(tactic| (refine Stop.here ?_))
local macro_rules | `(tactic| walk_at "binaryOp Add ref ref") => `(tactic| (refine Stop.here ?_))
theorem spec_pieces (w : World) (n : Nat) (t : Tok) (hn : n < 1000000) :
    Spec w 160 [.int (n : Int) t] 1 16 (fun _ => True) (RetStrs (piecesOf n)) := by
  w_top off
  ((have fk := kfill); revert fk; k_fill; intro fk; clear fk)
  refine' enterC [("number", .int (n : Int) t)] ?ho ?hcd ?hbind ?hkind ?hnd ?_ ?h1 ?h2 ?h3 ?h4
  ((case ho => k_is); (case hcd => k_is); (case hbind => intro s; exact BindsTo.of_eq (by with_unfolding_all rfl)); (case hkind => with_unfolding_all rfl); (case hnd => decide); (case h1 => decide); (case h2 => rfl); (case h3 => rfl); (case h4 => rfl))
  rintro dp outer gd un base h₀ s L cells mean mg mb B X T hdp hun hl F N Y
  have hY := CellsAre.two Y
  obtain ⟨o1, o2, rfl, d1, d2⟩ := hY
  clear Y
  replace d1 : o1.data = Data.cell none := by with_unfolding_all exact d1
  replace d2 : o2.data = Data.cell (some (.int (n : Int) t)) := by with_unfolding_all exact d2
  replace F : Fr h₀ L s.heap (fun y => none) := F
  show wpAny _ _ _ _ _ _
  k_fold
  k_steps
  repeat (any_goals ((with_reducible refine Stop.on ?_); (first | ((with_reducible show wpAny _ _ (binaryOp _ (Value.ref _) (Value.ref _)) _ _ _); refine' add_K (by assumption) (by assumption) (by exact News.isList (by assumption) (by k_mem)) (by exact News.isList (by assumption) (by k_mem)) (by (simp only [List.size_toArray, List.length_replicate]); omega) ?_; intro D' h' F' N' l1; (try k_lt l1); (try k_sweep)) | ((with_reducible show wpAny _ _ (binaryOp _ (Value.ref _) (Value.int _ _)) _ _ _); refine' mul_blank (by assumption) (by assumption) (by k_mem) ?_; intro D' h' F' N' l1; (try k_lt l1); (try k_sweep)) | ((with_reducible show wpAny _ _ (subscriptTail _ _ (Value.ref _) (Value.int _ _)) _ _ _); refine' item_word (by assumption) (by k_mem) ?_ (by with_unfolding_all rfl) (by intro _; with_unfolding_all rfl); intro t')); k_steps))
  refine Stop.on ?_
  refine LCg.Assign_ListComp_U (F₀ := by assumption) (by rfl) (by with_unfolding_all rfl) (by with_unfolding_all rfl) (by decide) (by rfl) (by decide) (by rfl) (by rfl) (by rfl) ?_
  k_steps
  repeat (any_goals ((with_reducible refine Stop.on ?_); (first | ((with_reducible show wpAny _ _ (binaryOp _ (Value.ref _) (Value.ref _)) _ _ _); refine' add_K (by assumption) (by assumption) (by exact News.isList (by assumption) (by k_mem)) (by exact News.isList (by assumption) (by k_mem)) (by (simp only [List.size_toArray, List.length_replicate]); omega) ?_; intro D' h' F' N' l1; (try k_lt l1); (try k_sweep)) | ((with_reducible show wpAny _ _ (binaryOp _ (Value.ref _) (Value.int _ _)) _ _ _); refine' mul_blank (by assumption) (by assumption) (by k_mem) ?_; intro D' h' F' N' l1; (try k_lt l1); (try k_sweep)) | ((with_reducible show wpAny _ _ (subscriptTail _ _ (Value.ref _) (Value.int _ _)) _ _ _); refine' item_word (by assumption) (by k_mem) ?_ (by with_unfolding_all rfl) (by intro _; with_unfolding_all rfl); intro t')); k_steps))
  refine Stop.on ?_
  obtain ⟨q1, q2⟩ := range_small (b := 1 + ((n : Int).fdiv 4).fmod 3) (by rw [f4]; omega) (by rw [f4]; omega)
  have q3 : (1 + ((n : Int).fdiv 4).fmod 3).toNat = 1 + n / 4 % 3 := by rw [f4]; omega
  rw [q3] at q2
  have q4 : 1 + n / 4 % 3 ≤ sizeLine := by have : sizeLine = 16777216 := by decide
                                           omega
  refine LCg.CompSrc.range rfl (by assumption) (by assumption) (by assumption) q1 q2 q4 ?_
  intro g'
  refine rest_map (n := 1 + n / 4 % 3) (fun i => word (n / 12 / 5 ^ i % 5)) trivial ?he ?fin _ 0 [] rfl (Nat.zero_le _) .nil
  case he =>
    intro i t' I oI C oC D ys m₂ h tk E' hi hC hx F N off ne
    have hi3 : i = 0 ∨ i = 1 ∨ i = 2 := by omega
    rcases hi3 with rfl | rfl | rfl
    all_goals k_steps
    repeat (any_goals ((with_reducible refine Stop.on ?_); (first | ((with_reducible show wpAny _ _ (binaryOp _ (Value.ref _) (Value.ref _)) _ _ _); refine' add_K (by assumption) (by assumption) (by exact News.isList (by assumption) (by k_mem)) (by exact News.isList (by assumption) (by k_mem)) (by (simp only [List.size_toArray, List.length_replicate]); omega) ?_; intro D' h' F' N' l1; (try k_lt l1); (try k_sweep)) | ((with_reducible show wpAny _ _ (binaryOp _ (Value.ref _) (Value.int _ _)) _ _ _); refine' mul_blank (by assumption) (by assumption) (by k_mem) ?_; intro D' h' F' N' l1; (try k_lt l1); (try k_sweep)) | ((with_reducible show wpAny _ _ (subscriptTail _ _ (Value.ref _) (Value.int _ _)) _ _ _); refine' item_word (by assumption) (by k_mem) ?_ (by with_unfolding_all rfl) (by intro _; with_unfolding_all rfl); intro t')); k_steps))
    · exact ⟨_, congrArg (Value.str · _) (congrArg word (idx n 0)), _, _, rfl, by assumption, by assumption⟩
    · exact ⟨_, congrArg (Value.str · _) (congrArg word (idx n 1)), _, _, rfl, by assumption, by assumption⟩
    · exact ⟨_, congrArg (Value.str · _) (congrArg word (idx n 2)), _, _, rfl, by assumption, by assumption⟩
  case fin =>
    intro ys hys
    have hyn : ys.length ≤ 3 := by rw [StrsAre.length hys]; exact names_len n
    have hm4 := mod4 n
    unfold LCg.FinA
    intro D' h' tk' F1 N1 o1'
    k_steps
    repeat (any_goals ((with_reducible refine Stop.on ?_); (first | ((with_reducible show wpAny _ _ (binaryOp _ (Value.ref _) (Value.ref _)) _ _ _); refine' add_K (by assumption) (by assumption) (by exact News.isList (by assumption) (by k_mem)) (by exact News.isList (by assumption) (by k_mem)) (by (simp only [List.size_toArray, List.length_replicate]); omega) ?_; intro D' h' F' N' l1; (try k_lt l1); (try k_sweep)) | ((with_reducible show wpAny _ _ (binaryOp _ (Value.ref _) (Value.int _ _)) _ _ _); refine' mul_blank (by assumption) (by assumption) (by k_mem) ?_; intro D' h' F' N' l1; (try k_lt l1); (try k_sweep)) | ((with_reducible show wpAny _ _ (subscriptTail _ _ (Value.ref _) (Value.int _ _)) _ _ _); refine' item_word (by assumption) (by k_mem) ?_ (by with_unfolding_all rfl) (by intro _; with_unfolding_all rfl); intro t')); k_steps))
    refine Back.retN (by assumption) (by assumption) fun N => retStrs_of N (.head _) ?_
    exact pieces_are (by first | rfl | exact lit_empty) (mod4 n) hys
end Mine
end

section
open PySem PySem.W PyProof.Rows
namespace Mine
/-- what the calls of one turn give back -/
structure TurnOk (w : World) (n : Nat) (names ps th ps2 : List Str) (sh : Str) : Prop where
  pieces : ∀ t, Spec w 160 [.int (n : Int) t] 1 16 (fun _ => True) (RetStrs ps)
  peel : ∀ d t u, Detail d → d.length ≤ 100 → Spec w 167 [.str (Str.join (one 46) ps) t, .str d u] 2 16 (fun _ => True) (RetStrs ps)
  peel2 : ∀ d t u, Detail d → d.length ≤ 100 → Spec w 167 [.str sh t, .str d u] 2 16 (fun _ => True) (RetStrs ps2)
  peel3 : ∀ d t u, Detail d → d.length ≤ 100 → Spec w 167 [.str (Str.join (one 46) th) t, .str d u] 2 16 (fun _ => True) (RetStrs th)
  led : ∀ qs vs l t, qs ∈ [ps, ps2, th] → StrsAre vs.toList qs → Spec w 174 [.str (PP names) t, .ref l] 4 32 (fun h => h.IsList l vs) (RetStr (PP th))
  walked : ∀ nv pv ln lp, StrsAre nv.toList names → StrsAre pv.toList ps → Spec w 181 [.ref ln, .ref lp] 2 16 (fun h => h.IsList ln nv ∧ h.IsList lp pv) (RetStrs th)
  back : ∀ t u, Spec w 188 [.str (PP names) t, .str (PP th) u] 5 60 (fun _ => True) (RetStr sh)
  told : ∀ nv tv ln lt, StrsAre nv.toList names → StrsAre tv.toList th → Spec w 195 [.ref ln, .ref lt] 2 16 (fun h => h.IsList ln nv ∧ h.IsList lt tv) (RetStr sh)
  wps : weight ps ≤ 100000
  wth : weight th ≤ 100000
  lth : (PP th).length ≤ 4096
  ljt : (Str.join (one 47) th).length ≤ 4096
theorem turn_ok (w : World) {n : Nat} {names : List Str} (hn : n < 1000000) (hN : ∀ c ∈ names, c ∈ words5) (hw : weight names ≤ 200) :
    TurnOk w n names (piecesOf n) (thereOf names n) (shortOf names (thereOf names n)) (toldT names (thereOf names n)) := by
  have hNp : ∀ c ∈ names, Plain c := fun c h => words_plain (hN c h)
  have hNc : ∀ c ∈ names, Comp c := fun c h => (hNp c h).1
  have tin : ∀ c ∈ thereOf names n, c ∈ words5 := there_in hN
  have tpl : ∀ c ∈ thereOf names n, Plain c := fun c h => words_plain (tin c h)
  have tw := there_weight names n
  have pw := pieces_weight n
  obtain ⟨td, z, tl0⟩ := there_last names n
  have tne : thereOf names n ≠ [] := by rw [tl0]; simp
  have t0 : 0 < (thereOf names n).length := List.length_pos_iff.mpr tne
  obtain ⟨qs, y, pl0, hy⟩ := pieces_last n
  have pne : piecesOf n ≠ [] := by rw [pl0]; simp
  have p0 : 0 < (piecesOf n).length := List.length_pos_iff.mpr pne
  have sw := short_weight names (thereOf names n)
  have nl := weight_len names
  have sbare : ∀ p ∈ shortOf names (thereOf names n), Bare p := fun p h => by
    rcases short_in h with rfl | h
    · exact bare_empty
    · exact words_bare (tin p h)
  have spart : ∀ p ∈ shortOf names (thereOf names n), PlainPart p := fun p h => by
    rcases short_in h with rfl | h
    · exact .inl rfl
    · exact .inr (tpl p h)
  have e1 : ledTo names (piecesOf n) = thereOf names n := ledTo_walk hNp pieces_part
  have e2 : ledTo names (shortOf names (thereOf names n)) = thereOf names n := (ledTo_walk hNp spart).trans (short_walk hNp tpl)
  have e3 : ledTo names (thereOf names n) = thereOf names n := (ledTo_walk hNp fun p h => .inr (tpl p h)).trans (full_walk tne tpl)
  have led : ∀ qs vs l t, ledTo names qs = thereOf names n → (∀ p ∈ qs, PlainPart p) → 0 < qs.length → weight qs ≤ 1000 → StrsAre vs.toList qs →
      Spec w 174 [.str (PP names) t, .ref l] 4 32 (fun h => h.IsList l vs) (RetStr (PP (thereOf names n))) := by
    intro qs vs l t e hp h0 hq hS
    have mw := mapFrom_weight qs 0
    have ql := weight_len qs
    have := spec_led w names qs vs l t hS hNc (fun p h => (hp p h).part) h0 (by omega) (by omega)
    rw [e] at this
    exact this
  have lp := PP_weight (thereOf names n)
  have lj := join_len_le 47 (thereOf names n)
  refine ⟨fun t => spec_pieces w n t hn, fun d t u hd hl => spec_peeled w _ d t u pieces_bare pne hd hl (by omega), fun d t u hd hl => ?_, fun d t u hd hl => spec_peeled w _ d t u (fun p h => words_bare (tin p h)) tne hd hl (by omega),
    fun qs vs l t hq hS => ?_, fun nv pv ln lp h1 h2 => spec_walked w names _ nv pv ln lp h1 h2 p0 (fun p hp => ?_) (by omega), fun t u => ?_, fun nv tv ln lt h1 h2 => spec_told w names _ nv tv ln lt h1 h2 t0 (by omega) (by omega), by omega, by omega, by omega, by omega⟩
  · rw [short_join tne]
    exact spec_peeled w _ d t u sbare short_ne hd hl (by omega)
  · simp only [List.mem_cons, List.not_mem_nil, or_false] at hq
    rcases hq with rfl | rfl | rfl
    · exact led _ vs l t e1 pieces_part p0 (by omega) hS
    · exact led _ vs l t e2 spart (List.length_pos_iff.mpr short_ne) (by omega) hS
    · exact led _ vs l t e3 (fun p h => .inr (tpl p h)) t0 (by omega) hS
  · rw [pl0] at hp
    simp only [List.length_append, List.length_singleton, Nat.add_sub_cancel] at hp
    rw [List.getElem?_append_right (Nat.le_refl _), Nat.sub_self] at hp
    have e : y = p := by simpa using hp
    rw [← e]
    exact plain_ne (words_plain hy)
  · rw [tl0] at tpl tw ⊢
    exact spec_back w names td z t u hNp tpl (by omega) (by omega)
end Mine
end

section
open PySem PySem.W PyProof.Rows
namespace Mine
set_option maxRecDepth 100000
set_option maxHeartbeats 8000000
set_option rowWalk.seconds 0


local macro_rules | `(tactic| walk_at "exec For Name Name cons nil") => `(tactic| refine Stop.here ?_)
local macro_rules | `(tactic| walk_at "subscriptTail Tuple BinOp ref int") => `(tactic| (refine Stop.here ?_))
local macro_rules | `(tactic| walk_at "subscriptTail Name BinOp ref int") => `(tactic| (refine Stop.here ?_))
local macro_rules | `(tactic| walk_at "call builtin:str.join") => `(tactic| refine Stop.here ?_)
local macro_rules | `(tactic| walk_at "call ref") => `(tactic| refine Stop.here ?_)
local macro_rules | `(tactic| walk_at "compareOp NotEq ref ref") => `(tactic| refine Stop.here ?_)
local macro_rules | `(tactic| walk_at "compareOp NotEq str str") => `(tactic| refine Stop.here ?_)
theorem units_ne {dp un : Nat} {outer : List Env} {gd : Option (List Code)} {env : Env} (h : un + 80 < cLine) : ((Arnd dp outer gd un).deeper env).units < cLine := by
  show un + 3 < cLine
  omega
/-- the loop's datum -/
structure At where
  names : List Str
  vs : Array Value
  l : Addr
  n : Nat
  t : Tok
theorem spec_tour (w : World) (ln : Addr) (nv : Array Value) (k : Nat) (hv : ∀ v ∈ nv.toList, ∃ (n : Nat) (t : Tok), v = .int (n : Int) t ∧ n < 1000000) (hk : nv.size ≤ 6) :
    Spec w 202 [.ref ln] 7 80 (fun h => h.get? ln = some (listOf nv k)) (RetBool true) := by
  w_top off
  ((have fk := kfill); revert fk; k_fill; intro fk; clear fk)
  refine' enter [("numbers", .ref ln)] ?ho ?hcd ?hbind ?hloc ?_ ?h1 ?h2 ?h3 ?h4 ?h5
  ((case ho => k_is); (case hcd => k_is); (case hbind => intro s; exact BindsTo.of_eq (by with_unfolding_all rfl)); (case hloc => exact locs (by with_unfolding_all rfl)); (case h1 => decide); (case h2 => rfl); (case h3 => rfl); (case h4 => rfl); (case h5 => decide))
  intro dp outer gd un base h₀ s L mean mg mb B X T hdp hun hl F N
  simp only [lit_slash, lit_dot]
  k_fold
  k_steps
  repeat (any_goals ((with_reducible refine Stop.on ?_); (first | ((with_reducible show wpAny _ _ (subscriptTail _ _ (Value.ref _) (Value.int _ _)) _ _ _); refine' item_detail (by assumption) (by k_mem) ?_ (by with_unfolding_all rfl); intro t' d' hd' hl') | ((with_reducible show wpAny _ _ (subscriptTail _ _ (Value.ref _) (Value.int _ _)) _ _ _); refine' item_detail (by assumption) (by k_mem) ?_ (by with_unfolding_all rfl); intro t' d' hd' hl')); k_steps))
  rename Fr _ _ _ _ => F1
  rename News _ _ _ _ => N1
  refine Stop.on ?_
  refine For_invVF F1 rfl rfl ?_ (hE := fun _ _ h => h.elim)
  k_fold
  walk1
  have hlL : ln ≠ L := Nat.ne_of_lt (Nat.lt_of_lt_of_le (Heap.lt_size hl) F1.above)
  refine' loopList (α := At) (vs := nv.toList) (rest := []) (fun a => [(Str.ofString "names", .ref a.l), (Str.ofString "stand", .str (PP a.names) a.t)]) (fun a => [(a.l, listOf a.vs a.n)])
    (fun i a => (∀ c ∈ a.names, c ∈ words5) ∧ weight a.names ≤ 15 * i ∧ StrsAre a.vs.toList a.names) [Str.ofString "pieces", Str.ofString "detail", Str.ofString "bare", Str.ofString "goal", Str.ofString "there", Str.ofString "short"]
    ⟨[], #[], _, 0, ?tk0⟩ rfl ⟨_, F1.keep _ _ hl, rfl, k, by simp⟩ hlL F1 N1 ?hp ?h0 ?turn ?done
  case h0 => exact ⟨(fun _ h => nomatch h), Nat.zero_le _, StrsAre.nil⟩
  case hp => exact List.forall_mem_cons.mpr ⟨by with_unfolding_all rfl, List.forall_mem_singleton.mpr (by with_unfolding_all rfl)⟩
  case turn =>
    rintro i v ⟨names, us, l0, n0, t0⟩ u I h tk own hv' hR hoff hown hIo F2 N2 hrest
    change Fr h₀ L _ _ at F2
    change News h₀ L _ _ at N2
    obtain ⟨hN, hW, hS⟩ := hR
    dsimp only at hN hW hS
    obtain ⟨n, tn, rfl, hn⟩ := hv v (List.mem_of_getElem? hv')
    have hi6 : i < 6 := by have := (List.getElem?_eq_some_iff.mp hv').1; rw [Array.length_toList] at this; omega
    have K := turn_ok w hn hN (by omega)
    have hth := there_weight names n
    have htin : ∀ c ∈ thereOf names n, c ∈ words5 := there_in hN
    have hl1 := K.lth
    have hl2 := K.ljt
    replace hth : weight (thereOf names n) ≤ 15 * (i + 1) := by omega
    generalize piecesOf n = ps at *
    generalize shortOf names (thereOf names n) = ps2 at *
    generalize toldT names (thereOf names n) = sh at *
    generalize thereOf names n = th at *
    simp only [List.cons_append, List.nil_append] at N2
    dsimp only [kstB] at F2
    clear hv' hoff hown hrest F1 N1
    show wpAny _ _ _ _ _ _
    k_fold
    k_steps
    repeat (any_goals ((with_reducible refine Stop.on ?_); (first | ((with_reducible show wpAny _ _ (subscriptTail _ _ (Value.ref _) (Value.int _ _)) _ _ _); refine' item_detail (by assumption) (by k_mem) ?_ (by with_unfolding_all rfl); intro t' d' hd' hl') | ((with_reducible show wpAny _ _ (subscriptTail _ _ (Value.ref _) (Value.int _ _)) _ _ _); refine' item_detail (by assumption) (by k_mem) ?_ (by with_unfolding_all rfl); intro t' d' hd' hl')); k_steps))
    refine Stop.on ?_
    refine' Spec.useL (K.pieces _) B X T (by assumption) (by assumption) trivial rfl ?d1 ?u1 ?_
    case d1 => omega
    case u1 => omega
    intro l1 vs1 m1 h1 tk1 F1 N1 hS1 o1
    k_sweep
    k_steps
    repeat (any_goals ((with_reducible refine Stop.on ?_); (first | ((with_reducible show wpAny _ _ (subscriptTail _ _ (Value.ref _) (Value.int _ _)) _ _ _); refine' item_detail (by assumption) (by k_mem) ?_ (by with_unfolding_all rfl); intro t' d' hd' hl') | ((with_reducible show wpAny _ _ (subscriptTail _ _ (Value.ref _) (Value.int _ _)) _ _ _); refine' item_detail (by assumption) (by k_mem) ?_ (by with_unfolding_all rfl); intro t' d' hd' hl')); k_steps))
    refine Stop.on ?_
    refine' join_strs ?l2 ?i2 ?n2 K.wps ?_
    case l2 => exact News.isList (by assumption) (by k_mem)
    case i2 => assumption
    case n2 => decide
    intro t2 k2
    k_steps
    repeat (any_goals ((with_reducible refine Stop.on ?_); (first | ((with_reducible show wpAny _ _ (subscriptTail _ _ (Value.ref _) (Value.int _ _)) _ _ _); refine' item_detail (by assumption) (by k_mem) ?_ (by with_unfolding_all rfl); intro t' d' hd' hl') | ((with_reducible show wpAny _ _ (subscriptTail _ _ (Value.ref _) (Value.int _ _)) _ _ _); refine' item_detail (by assumption) (by k_mem) ?_ (by with_unfolding_all rfl); intro t' d' hd' hl')); k_steps))
    refine Stop.on ?_
    refine' Spec.useL (K.peel _ _ _ ?hd3 ?hl3) B X T (by assumption) (by assumption) trivial rfl ?d3 ?u3 ?_
    case hd3 => assumption
    case hl3 => assumption
    case d3 => omega
    case u3 => omega
    intro l3 vs3 m3 h3 tk3 F3 N3 hS3 o3
    k_sweep
    k_steps
    repeat (any_goals ((with_reducible refine Stop.on ?_); (first | ((with_reducible show wpAny _ _ (subscriptTail _ _ (Value.ref _) (Value.int _ _)) _ _ _); refine' item_detail (by assumption) (by k_mem) ?_ (by with_unfolding_all rfl); intro t' d' hd' hl') | ((with_reducible show wpAny _ _ (subscriptTail _ _ (Value.ref _) (Value.int _ _)) _ _ _); refine' item_detail (by assumption) (by k_mem) ?_ (by with_unfolding_all rfl); intro t' d' hd' hl')); k_steps))
    refine Stop.on ?_
    refine' ne_lists ?N4 ?l4 ?b4 ?x4 ?y4 (units_ne hun) ?_
    case N4 => assumption
    case l4 => k_mem
    case b4 => k_mem
    case x4 => assumption
    case y4 => assumption
    k_steps
    repeat (any_goals ((with_reducible refine Stop.on ?_); (first | ((with_reducible show wpAny _ _ (subscriptTail _ _ (Value.ref _) (Value.int _ _)) _ _ _); refine' item_detail (by assumption) (by k_mem) ?_ (by with_unfolding_all rfl); intro t' d' hd' hl') | ((with_reducible show wpAny _ _ (subscriptTail _ _ (Value.ref _) (Value.int _ _)) _ _ _); refine' item_detail (by assumption) (by k_mem) ?_ (by with_unfolding_all rfl); intro t' d' hd' hl')); k_steps))
    refine Stop.on ?_
    refine' Spec.useS (K.led _ _ _ _ (.head _) ?hS5) B X T (by assumption) (by assumption) ?pre5 rfl ?d5 ?u5 ?_
    case pre5 => exact News.isList (by assumption) (by k_mem)
    case hS5 => assumption
    case d5 => omega
    case u5 => omega
    intro t5 h5 tk5 F5 N5
    k_sweep
    k_steps
    repeat (any_goals ((with_reducible refine Stop.on ?_); (first | ((with_reducible show wpAny _ _ (subscriptTail _ _ (Value.ref _) (Value.int _ _)) _ _ _); refine' item_detail (by assumption) (by k_mem) ?_ (by with_unfolding_all rfl); intro t' d' hd' hl') | ((with_reducible show wpAny _ _ (subscriptTail _ _ (Value.ref _) (Value.int _ _)) _ _ _); refine' item_detail (by assumption) (by k_mem) ?_ (by with_unfolding_all rfl); intro t' d' hd' hl')); k_steps))
    refine Stop.on ?_
    refine' Spec.useL (K.walked _ _ _ _ ?ha6 ?hb6) B X T (by assumption) (by assumption) ?pre6 rfl ?d6 ?u6 ?_
    case pre6 => exact ⟨News.isList (by assumption) (by k_mem), News.isList (by assumption) (by k_mem)⟩
    case ha6 => assumption
    case hb6 => assumption
    case d6 => omega
    case u6 => omega
    intro l6 vs6 m6 h6 tk6 F6 N6 hS6 o6
    k_sweep
    k_steps
    repeat (any_goals ((with_reducible refine Stop.on ?_); (first | ((with_reducible show wpAny _ _ (subscriptTail _ _ (Value.ref _) (Value.int _ _)) _ _ _); refine' item_detail (by assumption) (by k_mem) ?_ (by with_unfolding_all rfl); intro t' d' hd' hl') | ((with_reducible show wpAny _ _ (subscriptTail _ _ (Value.ref _) (Value.int _ _)) _ _ _); refine' item_detail (by assumption) (by k_mem) ?_ (by with_unfolding_all rfl); intro t' d' hd' hl')); k_steps))
    refine Stop.on ?_
    refine' join_strs ?l7 ?i7 ?n7 K.wth ?_
    case l7 => exact News.isList (by assumption) (by k_mem)
    case i7 => assumption
    case n7 => decide
    intro t7 k7
    k_steps
    repeat (any_goals ((with_reducible refine Stop.on ?_); (first | ((with_reducible show wpAny _ _ (subscriptTail _ _ (Value.ref _) (Value.int _ _)) _ _ _); refine' item_detail (by assumption) (by k_mem) ?_ (by with_unfolding_all rfl); intro t' d' hd' hl') | ((with_reducible show wpAny _ _ (subscriptTail _ _ (Value.ref _) (Value.int _ _)) _ _ _); refine' item_detail (by assumption) (by k_mem) ?_ (by with_unfolding_all rfl); intro t' d' hd' hl')); k_steps))
    refine Stop.on ?_
    refine ne_texts rfl ?_
    k_steps
    repeat (any_goals ((with_reducible refine Stop.on ?_); (first | ((with_reducible show wpAny _ _ (subscriptTail _ _ (Value.ref _) (Value.int _ _)) _ _ _); refine' item_detail (by assumption) (by k_mem) ?_ (by with_unfolding_all rfl); intro t' d' hd' hl') | ((with_reducible show wpAny _ _ (subscriptTail _ _ (Value.ref _) (Value.int _ _)) _ _ _); refine' item_detail (by assumption) (by k_mem) ?_ (by with_unfolding_all rfl); intro t' d' hd' hl')); k_steps))
    refine Stop.on ?_
    refine' Spec.useS (K.back _ _) B X T (by assumption) (by assumption) trivial rfl ?d8 ?u8 ?_
    case d8 => omega
    case u8 => omega
    intro t8 h8 tk8 F8 N8
    k_sweep
    k_steps
    repeat (any_goals ((with_reducible refine Stop.on ?_); (first | ((with_reducible show wpAny _ _ (subscriptTail _ _ (Value.ref _) (Value.int _ _)) _ _ _); refine' item_detail (by assumption) (by k_mem) ?_ (by with_unfolding_all rfl); intro t' d' hd' hl') | ((with_reducible show wpAny _ _ (subscriptTail _ _ (Value.ref _) (Value.int _ _)) _ _ _); refine' item_detail (by assumption) (by k_mem) ?_ (by with_unfolding_all rfl); intro t' d' hd' hl')); k_steps))
    refine Stop.on ?_
    refine' Spec.useS (K.told _ _ _ _ ?ha9 ?hb9) B X T (by assumption) (by assumption) ?pre9 rfl ?d9 ?u9 ?_
    case pre9 => exact ⟨News.isList (by assumption) (by k_mem), News.isList (by assumption) (by k_mem)⟩
    case ha9 => assumption
    case hb9 => assumption
    case d9 => omega
    case u9 => omega
    intro t9 h9 tk9 F9 N9
    k_sweep
    k_steps
    repeat (any_goals ((with_reducible refine Stop.on ?_); (first | ((with_reducible show wpAny _ _ (subscriptTail _ _ (Value.ref _) (Value.int _ _)) _ _ _); refine' item_detail (by assumption) (by k_mem) ?_ (by with_unfolding_all rfl); intro t' d' hd' hl') | ((with_reducible show wpAny _ _ (subscriptTail _ _ (Value.ref _) (Value.int _ _)) _ _ _); refine' item_detail (by assumption) (by k_mem) ?_ (by with_unfolding_all rfl); intro t' d' hd' hl')); k_steps))
    refine Stop.on ?_
    refine ne_texts rfl ?_
    k_steps
    repeat (any_goals ((with_reducible refine Stop.on ?_); (first | ((with_reducible show wpAny _ _ (subscriptTail _ _ (Value.ref _) (Value.int _ _)) _ _ _); refine' item_detail (by assumption) (by k_mem) ?_ (by with_unfolding_all rfl); intro t' d' hd' hl') | ((with_reducible show wpAny _ _ (subscriptTail _ _ (Value.ref _) (Value.int _ _)) _ _ _); refine' item_detail (by assumption) (by k_mem) ?_ (by with_unfolding_all rfl); intro t' d' hd' hl')); k_steps))
    refine Stop.on ?_
    refine' Spec.useL (K.peel2 _ _ _ ?hd10 ?hl10) B X T (by assumption) (by assumption) trivial rfl ?d10 ?u10 ?_
    case hd10 => assumption
    case hl10 => assumption
    case d10 => omega
    case u10 => omega
    intro l10 vs10 m10 h10 tk10 F10 N10 hS10 o10
    k_sweep
    k_steps
    repeat (any_goals ((with_reducible refine Stop.on ?_); (first | ((with_reducible show wpAny _ _ (subscriptTail _ _ (Value.ref _) (Value.int _ _)) _ _ _); refine' item_detail (by assumption) (by k_mem) ?_ (by with_unfolding_all rfl); intro t' d' hd' hl') | ((with_reducible show wpAny _ _ (subscriptTail _ _ (Value.ref _) (Value.int _ _)) _ _ _); refine' item_detail (by assumption) (by k_mem) ?_ (by with_unfolding_all rfl); intro t' d' hd' hl')); k_steps))
    refine Stop.on ?_
    refine' Spec.useS (K.led _ _ _ _ (.tail _ (.head _)) ?hS11) B X T (by assumption) (by assumption) ?pre11 rfl ?d11 ?u11 ?_
    case pre11 => exact News.isList (by assumption) (by k_mem)
    case hS11 => assumption
    case d11 => omega
    case u11 => omega
    intro t11 h11 tk11 F11 N11
    k_sweep
    k_steps
    repeat (any_goals ((with_reducible refine Stop.on ?_); (first | ((with_reducible show wpAny _ _ (subscriptTail _ _ (Value.ref _) (Value.int _ _)) _ _ _); refine' item_detail (by assumption) (by k_mem) ?_ (by with_unfolding_all rfl); intro t' d' hd' hl') | ((with_reducible show wpAny _ _ (subscriptTail _ _ (Value.ref _) (Value.int _ _)) _ _ _); refine' item_detail (by assumption) (by k_mem) ?_ (by with_unfolding_all rfl); intro t' d' hd' hl')); k_steps))
    refine Stop.on ?_
    refine ne_texts rfl ?_
    k_steps
    repeat (any_goals ((with_reducible refine Stop.on ?_); (first | ((with_reducible show wpAny _ _ (subscriptTail _ _ (Value.ref _) (Value.int _ _)) _ _ _); refine' item_detail (by assumption) (by k_mem) ?_ (by with_unfolding_all rfl); intro t' d' hd' hl') | ((with_reducible show wpAny _ _ (subscriptTail _ _ (Value.ref _) (Value.int _ _)) _ _ _); refine' item_detail (by assumption) (by k_mem) ?_ (by with_unfolding_all rfl); intro t' d' hd' hl')); k_steps))
    refine Stop.on ?_
    refine' join_strs ?l12 ?i12 ?n12 K.wth ?_
    case l12 => exact News.isList (by assumption) (by k_mem)
    case i12 => assumption
    case n12 => decide
    intro t12 k12
    k_steps
    repeat (any_goals ((with_reducible refine Stop.on ?_); (first | ((with_reducible show wpAny _ _ (subscriptTail _ _ (Value.ref _) (Value.int _ _)) _ _ _); refine' item_detail (by assumption) (by k_mem) ?_ (by with_unfolding_all rfl); intro t' d' hd' hl') | ((with_reducible show wpAny _ _ (subscriptTail _ _ (Value.ref _) (Value.int _ _)) _ _ _); refine' item_detail (by assumption) (by k_mem) ?_ (by with_unfolding_all rfl); intro t' d' hd' hl')); k_steps))
    refine Stop.on ?_
    refine' Spec.useL (K.peel3 _ _ _ ?hd13 ?hl13) B X T (by assumption) (by assumption) trivial rfl ?d13 ?u13 ?_
    case hd13 => assumption
    case hl13 => assumption
    case d13 => omega
    case u13 => omega
    intro l13 vs13 m13 h13 tk13 F13 N13 hS13 o13
    k_sweep
    k_steps
    repeat (any_goals ((with_reducible refine Stop.on ?_); (first | ((with_reducible show wpAny _ _ (subscriptTail _ _ (Value.ref _) (Value.int _ _)) _ _ _); refine' item_detail (by assumption) (by k_mem) ?_ (by with_unfolding_all rfl); intro t' d' hd' hl') | ((with_reducible show wpAny _ _ (subscriptTail _ _ (Value.ref _) (Value.int _ _)) _ _ _); refine' item_detail (by assumption) (by k_mem) ?_ (by with_unfolding_all rfl); intro t' d' hd' hl')); k_steps))
    refine Stop.on ?_
    refine' Spec.useS (K.led _ _ _ _ (.tail _ (.tail _ (.head _))) ?hS14) B X T (by assumption) (by assumption) ?pre14 rfl ?d14 ?u14 ?_
    case pre14 => exact News.isList (by assumption) (by k_mem)
    case hS14 => assumption
    case d14 => omega
    case u14 => omega
    intro t14 h14 tk14 F14 N14
    k_sweep
    k_steps
    repeat (any_goals ((with_reducible refine Stop.on ?_); (first | ((with_reducible show wpAny _ _ (subscriptTail _ _ (Value.ref _) (Value.int _ _)) _ _ _); refine' item_detail (by assumption) (by k_mem) ?_ (by with_unfolding_all rfl); intro t' d' hd' hl') | ((with_reducible show wpAny _ _ (subscriptTail _ _ (Value.ref _) (Value.int _ _)) _ _ _); refine' item_detail (by assumption) (by k_mem) ?_ (by with_unfolding_all rfl); intro t' d' hd' hl')); k_steps))
    refine Stop.on ?_
    refine ne_texts rfl ?_
    k_steps
    repeat (any_goals ((with_reducible refine Stop.on ?_); (first | ((with_reducible show wpAny _ _ (subscriptTail _ _ (Value.ref _) (Value.int _ _)) _ _ _); refine' item_detail (by assumption) (by k_mem) ?_ (by with_unfolding_all rfl); intro t' d' hd' hl') | ((with_reducible show wpAny _ _ (subscriptTail _ _ (Value.ref _) (Value.int _ _)) _ _ _); refine' item_detail (by assumption) (by k_mem) ?_ (by with_unfolding_all rfl); intro t' d' hd' hl')); k_steps))
    change GenEnd _ _ _ _ _ _ _ _ _ _ _ _
    refine GenEnd.mk ⟨th, vs6, l6, m6, t5⟩ (by assumption) (by assumption) ?e1 ?e2 ?e3 ?e4 ?e5 ⟨htin, hth, hS6⟩
    case e1 => exact List.forall_mem_singleton.mpr (by k_mem)
    case e2 => intro p hp; simp [hp]
    case e3 => exact List.forall_mem_singleton.mpr (off_ne hIo fun p hp => o6 p (by simp [hp]))
    case e4 => exact List.forall_mem_cons.mpr ⟨by with_unfolding_all rfl, List.forall_mem_singleton.mpr (by with_unfolding_all rfl)⟩
    case e5 =>
      intro z h1 h2 h3
      have hz1 := h2 _ (.head _)
      have hz2 := h2 _ (.tail _ (.head _))
      dsimp only at hz1 hz2
      simp only [List.contains_cons, List.contains_nil, Bool.or_false, Bool.or_eq_false_iff, beq_eq_false_iff_ne] at h1 h3
      obtain ⟨g1, g2, g3, g4, g5, g6⟩ := h3
      simp only [List.contains_cons, List.contains_nil, if_neg hz1, if_neg hz2, if_neg h1, if_neg g1, if_neg g2, if_neg g3, if_neg g4, if_neg g5, if_neg g6, beq_eq_false_iff_ne.mpr g1, beq_eq_false_iff_ne.mpr g2, beq_eq_false_iff_ne.mpr g3, beq_eq_false_iff_ne.mpr g4, beq_eq_false_iff_ne.mpr g5, beq_eq_false_iff_ne.mpr g6, Bool.or_self, Bool.false_eq_true, if_false]
  case done =>
    rintro ⟨names, us, l0, n0, t0⟩ u h tk hR F2 N2
    change Fr h₀ L _ _ at F2
    change News h₀ L _ _ at N2
    show wpAny _ _ _ _ _ _
    k_steps
    repeat (any_goals ((with_reducible refine Stop.on ?_); (first | ((with_reducible show wpAny _ _ (subscriptTail _ _ (Value.ref _) (Value.int _ _)) _ _ _); refine' item_detail (by assumption) (by k_mem) ?_ (by with_unfolding_all rfl); intro t' d' hd' hl') | ((with_reducible show wpAny _ _ (subscriptTail _ _ (Value.ref _) (Value.int _ _)) _ _ _); refine' item_detail (by assumption) (by k_mem) ?_ (by with_unfolding_all rfl); intro t' d' hd' hl')); k_steps))
    exact Back.ret (by assumption) rfl
end Mine
end

section
open PySem PySem.W PyProof.Rows
namespace Mine
set_option maxRecDepth 100000
set_option maxHeartbeats 8000000
set_option rowWalk.seconds 0
theorem ints_mem : ∀ {vs : List Value} {ns : List Int}, IntsAre vs ns → ∀ v ∈ vs, ∃ i ∈ ns, ∃ t, v = .int i t
  | _, _, .nil, v, h => nomatch h
  | _, _, .cons i t g, v, h => by
    rcases List.mem_cons.mp h with rfl | h
    · exact ⟨i, .head _, t, rfl⟩
    · obtain ⟨j, hj, t', e⟩ := ints_mem g v h
      exact ⟨j, .tail _ hj, t', e⟩
theorem numbers_ok {ws : List Value} {sc : List Int} (h : IntsAre ws ([8, 1519] ++ List.map (fun k' => k'.fmod (10 ^ Int.toNat 6)) (List.take 4 sc))) :
    (∀ v ∈ ws.toArray.toList, ∃ (n : Nat) (t : Tok), v = .int (n : Int) t ∧ n < 1000000) ∧ ws.toArray.size ≤ 6 := by
  constructor
  · intro v hv
    obtain ⟨i, hi, t, rfl⟩ := ints_mem h v (by simpa using hv)
    have hb : 0 ≤ i ∧ i < 1000000 := by
      simp only [List.mem_append, List.mem_cons, List.not_mem_nil, or_false, List.mem_map] at hi
      rcases hi with (rfl | rfl) | ⟨j, _, rfl⟩
      · decide
      · decide
      · have e : (10 : Int) ^ Int.toNat 6 = 1000000 := by decide
        rw [e]
        exact ⟨Int.fmod_nonneg_of_pos _ (by decide), Int.fmod_lt_of_pos _ (by decide)⟩
    refine ⟨i.toNat, t, ?_, by omega⟩
    rw [Int.toNat_of_nonneg hb.1]
  · have := IntsAre.length h
    simp only [List.length_append, List.length_cons, List.length_nil, List.length_map, List.length_take] at this
    rw [List.size_toArray]
    omega
local macro_rules | `(tactic| walk_at "call ref") => `(tactic| refine Stop.here ?_)
theorem law_holds : PySem.Challenge.rw_pd0056_01.Holds := hd (by
  k_go0
  all_goals try k_fold
  k_steps
  refine Stop.on ?_
  rename IntsAre _ ([8, 1519] ++ _) => hI
  rename Below _ _ _ _ => KB
  have hnum := numbers_ok hI
  refine' Spec.useB (dp := 1 + claimMargin) (outer := []) (gd := some []) (un := 4) (spec_tour _ _ _ 0 hnum.1 hnum.2) KB (by assumption) (by assumption) (by assumption) (by assumption) ?pre rfl ?d ?u ?_
  case pre => exact News.get (by assumption) (.head _)
  case d => decide +kernel
  case u => decide +kernel
  intro h' tk' F' N'
  k_steps
  all_goals trace_state)
end Mine
end

theorem PySem.Challenge.cw_pd0056_01_holds : PySem.Challenge.rw_pd0056_01.Holds :=
  Mine.law_holds
