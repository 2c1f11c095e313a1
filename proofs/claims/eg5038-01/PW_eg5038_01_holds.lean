import PyProof.Rows.All
import Wide.All
import OpenK.AllK
import Wide.FinOn
import Lean
import PySem.Challenge.RW_eg5038_01
open PySem PySem.W PySem.Calls PyProof.Rows
set_option Elab.async false
set_option maxRecDepth 100000
set_option rowWalk.seconds 0
namespace Mine
set_option maxRecDepth 100000 in
set_option maxHeartbeats 8000000 in
open_top hd for PySem.Challenge.rw_eg5038_01

noncomputable abbrev prog : Program := PySem.Challenge.pw_eg5038_01
noncomputable abbrev P : Program := hd.view_39
noncomputable abbrev loose : List Str := looseW P [Str.ofString "SHORT_STRING"]

/-- the stack as a callee finds it: `outer` are the frames' environments, `b` what stands -/
structure Sit (w : World) (mean : ExcName → Option Value) (mg mb : Str → Option Value) (A : Around) (b : Heap) (outer : List Env) (h : Heap) : Prop where
  below : Below A b outer h
  K : (hd.heap_39 w.params).In b
  T : Top P loose mean mg mb b
  D : KtsDicts (outer.filterMap (·.frame)) h

/-- a list of objects that the callee may change: none stands in `b`, none is a frame -/
structure Led (b : Heap) (fs : List Addr) (h : Heap) (l : List (Addr × Obj)) : Prop where
  at_ : ∀ p ∈ l, h.get? p.1 = some p.2 ∧ b.get? p.1 = none ∧ p.1 ∉ fs
  nodup : (l.map (·.1)).Nodup

/-- how a quiet call leaves the heap -/
structure QEnds (b : Heap) (fs : List Addr) (h h' : Heap) : Prop where
  stays : b.StaysIn h'
  size : h.objs.size ≤ h'.objs.size
  frame : ∀ a o, h.get? a = some o → a ∈ fs → h'.get? a = some o

/-- how a call that catches leaves it -/
structure Ends (b : Heap) (fs : List Addr) (h h' : Heap) : Prop where
  stays : b.StaysIn h'
  size : h.objs.size ≤ h'.objs.size
  frame : ∀ a o, h.get? a = some o → a ∈ fs → ∃ sl, h'.get? a = some { o with slots := sl }

abbrev frs (outer : List Env) : List Addr := outer.filterMap (·.frame)

abbrev arA (dp un : Nat) (gd : Option (List Code)) (outer : List Env) : Around := { handled := none, depth := dp, frames := some outer, guards := gd, units := un }

section
variable {w : World} {mean : ExcName → Option Value} {mg mb : Str → Option Value} {A : Around} {b : Heap} {outer : List Env} {s : Shared} {fp : List (Addr × Obj)}
  {R : Result → Shared → Prop} {name qual : Str} {params : Arguments} {body : List Stmt} {scope : Scope} {dV kV doc pm cdv ct oc : Value} {an od : Option Addr} {osl : Array (Option Value)} {f : Addr} {args : Args} {binds : List (Str × Value)}

theorem stays_hide (S : Below A b outer s.heap) (Lf : Led b (frs outer) s.heap fp) : b.StaysIn (hideAll s.heap (fp.map (·.1))) := fun a o e => hideAll_get _ (S.stays a o e) fun hm => by
  obtain ⟨p, hp, rfl⟩ := List.mem_map.mp hm
  rw [(Lf.at_ p hp).2.1] at e; cases e

theorem enter (S : Sit w mean mg mb A b outer s.heap) (Lf : Led b (frs outer) s.heap fp)
    (ho : (hd.heap_39 w.params).lookup f = some ⟨oc, od, .func (fnOf name qual params body scope dV kV doc pm an cdv ct), osl⟩) (hcd : codeIn (hd.heap_39 w.params) cdv qual = true) (hroom : A.depth < recursionLimit)
    (hbind : BindsTo s (fnOf name qual params body scope dV kV doc pm an cdv ct) args binds) (hloc : ∀ y ∈ binds, scope.names.lookup y.1 = some .local)
    (h : ∀ g L' h₁, Fr g L' h₁ (fun y => binds.reverse.lookup y) → News g L' h₁ fp → Below A b outer g → (hd.heap_39 w.params).In g → Top P loose mean mg mb g → KtsDicts (frs outer) g →
      (∀ a o, s.heap.get? a = some o → a ∈ frs outer → g.get? a = some o) → s.heap.objs.size = L' →
      wpAny (model prog w) (A.deeper (envOf qual scope L' f cdv)) (execs body (envOf qual scope L' f cdv))
        (fun fl s' => R (.ok (.ret (match fl with | .ret v => v | _ => .none))) s')
        (fun e s' => wpAny (model prog w) (A.deeper (envOf qual scope L' f cdv)) (leaving (envOf qual scope L' f cdv) e) (fun _ s'' => R (.error e) s'') (fun e' s'' => R (.error e') s'') s')
        { s with heap := h₁, toks := s.toks + binds.length })
    (hco : scope.isCoroutine = false) (hgen : scope.isGenerator = false) (hk : scope.kind = .function)
    (hcell : ∀ x ∈ scope.names, x.2 ≠ .cell) : codeAny (model prog w) A (.call (.ref f) args) R s := by
  have X := S.K.keeps S.below.stays
  refine codeAny_call_def (fd := fnOf name qual params body scope dV kV doc pm an cdv ct) (body := body) (binds := binds) hroom (X _ _ ho) rfl (S.T.nolimit.keeps S.below.stays) (codeRec_of X hcd) rfl hbind hcell hloc (fun h₁ hns hk₁ => ?_) hco hgen hk
  have st := stays_hide S.below Lf
  have hf : ∀ a o, s.heap.get? a = some o → a ∈ frs outer → (hideAll s.heap (fp.map (·.1))).get? a = some o := fun a o e hm => hideAll_get _ e fun q => by
    obtain ⟨p, hp, rfl⟩ := List.mem_map.mp q
    exact (Lf.at_ p hp).2.2 hm
  refine h _ s.heap.objs.size h₁ ⟨hns, fun b o e => hk₁ b o (of_hideAll _ e), Nat.le_of_eq (hideAll_size _ _)⟩
    (fun p hp => ⟨hk₁ _ _ (Lf.at_ p hp).1, Nat.ne_of_lt (Heap.lt_size (Lf.at_ p hp).1), hideAll_none _ (List.mem_map_of_mem hp)⟩)
    ⟨S.below.stack, st, funFrames_hideAll S.below.frames fun env he a ha hfa => ?_⟩ (S.K.keeps st) (S.T.keeps st) ?_ hf rfl
  · obtain ⟨p, hp, rfl⟩ := List.mem_map.mp ha
    exact (Lf.at_ p hp).2.2 (List.mem_filterMap.mpr ⟨env, he, hfa⟩)
  · intro a ha
    obtain ⟨o, es, n, e, d⟩ := S.D a ha
    exact ⟨o, es, n, hf a o e ha, d⟩

theorem Led.nil {b : Heap} {fs : List Addr} {h : Heap} : Led b fs h [] := ⟨(fun _ hp => (nomatch hp)), List.nodup_nil⟩
end

/-- a call that raises nothing and catches nothing: what it may change, what it gives -/
def Quiet (w : World) (mean : ExcName → Option Value) (mg mb : Str → Option Value) (f : Addr) (d u : Nat) (args : List Value) (fp : List (Addr × Obj)) (b : Heap) (Post : Value → List (Addr × Obj) → Prop) : Prop :=
  ∀ (A : Around) (outer : List Env) (s : Shared) (R : Result → Shared → Prop), A.handled = none → Sit w mean mg mb A b outer s.heap → A.depth + d < recursionLimit → A.units + u < cLine → Led b (frs outer) s.heap fp →
    (∀ r led' h' tk', QEnds b (frs outer) s.heap h' → Led b (frs outer) h' led' → Post r led' → R (.ok (.ret r)) { s with heap := h', toks := tk' }) →
    codeAny (model prog w) A (.call (.ref f) ⟨args, []⟩) R s

section
variable {w : World} {mean : ExcName → Option Value} {mg mb : Str → Option Value} {A₀ A : Around} {base g : Heap} {outer : List Env} {s : Shared} {fp rest news : List (Addr × Obj)} {env : Env} {L : Addr} {m : Str → Option Value}
  {Q : Value → Shared → Prop} {E : Value → Shared → Prop} {f : Addr} {d u : Nat} {args : List Value} {Post : Value → List (Addr × Obj) → Prop}

/-- the ground of a call: all that the caller knows, less what the callee may change and less the frames -/
def groundOf (h : Heap) (fp : List (Addr × Obj)) (fs : List Addr) : Heap := hideAll h (fp.map (·.1) ++ fs)

theorem ground_get {h : Heap} {fs : List Addr} {a : Addr} {o : Obj} (e : h.get? a = some o) (h1 : a ∉ fp.map (·.1)) (h2 : a ∉ fs) : (groundOf h fp fs).get? a = some o :=
  hideAll_get _ e fun q => (List.mem_append.mp q).elim h1 h2

theorem frs_cons (hf : env.frame = some L) : frs (env :: outer) = L :: frs outer := by
  show List.filterMap _ _ = _
  rw [List.filterMap_cons, hf]

theorem frame_in (B : Below A₀ base outer g) {a : Addr} (h : a ∈ frs outer) : ∃ o, g.get? a = some o := let ⟨_, o, ho, _⟩ := B.frames.mem h; ⟨o, ho⟩

theorem sit_call (XB : (hd.heap_39 w.params).In base) (TB : Top P loose mean mg mb base) (B : Below A₀ base outer g) (D : KtsDicts (frs outer) g) (F : Fr g L s.heap m) (N : News g L s.heap news)
    (hA : A.frames = some (env :: outer)) (hf : env.frame = some L) (hke : env.scope.kind = .function) (hfp : ∀ p ∈ fp, p ∈ news) (hnd : (fp.map (·.1)).Nodup) :
    Sit w mean mg mb A (groundOf s.heap fp (frs (env :: outer))) (env :: outer) s.heap ∧ Led (groundOf s.heap fp (frs (env :: outer))) (frs (env :: outer)) s.heap fp ∧
      (∀ a o, g.get? a = some o → a ∉ frs outer → (groundOf s.heap fp (frs (env :: outer))).get? a = some o) ∧ base.StaysIn (groundOf s.heap fp (frs (env :: outer))) := by
  have nL : ∀ a o, g.get? a = some o → a ≠ L := fun a o e q => by rw [q, kts_self F] at e; cases e
  have hg : ∀ a o, g.get? a = some o → a ∉ frs outer → (groundOf s.heap fp (frs (env :: outer))).get? a = some o := fun a o e hn => ground_get (F.keep a o e)
    (fun q => by obtain ⟨p, hp, rfl⟩ := List.mem_map.mp q; have := (N p (hfp p hp)).2.2; rw [this] at e; cases e)
    (fun q => by rw [frs_cons hf] at q; rcases List.mem_cons.mp q with z | z; exact nL a o e z; exact hn z)
  have hb : base.StaysIn (groundOf s.heap fp (frs (env :: outer))) := fun a o e => hg a o (B.stays a o e) fun q => by
    rw [(B.frames.mem q).1] at e; cases e
  have K' := pushX B F hf hke
  have hfr : ∀ a, a ∈ frs (env :: outer) → (groundOf s.heap fp (frs (env :: outer))).get? a = none := fun a ha => hideAll_none _ (List.mem_append_right _ ha)
  refine ⟨⟨⟨hA, fun a o e => of_hideAll _ e, ?_⟩, XB.keeps hb, TB.keeps hb, ?_⟩, ⟨fun p hp => ⟨(N p (hfp p hp)).1, hideAll_none _ (List.mem_append_left _ (List.mem_map_of_mem hp)), fun q => ?_⟩, hnd⟩, hg, hb⟩
  · exact funFrames_hide K'.frames fun env' he a ha => List.mem_append_right _ (List.mem_filterMap.mpr ⟨env', he, ha⟩)
  · intro a ha
    rw [show List.filterMap (fun x : Env => x.frame) (env :: outer) = L :: frs outer from frs_cons hf] at ha
    rcases List.mem_cons.mp ha with rfl | ha
    · obtain ⟨o, es, ep, h1, h2, _⟩ := F.ns; exact ⟨o, es, ep, h1, h2⟩
    · obtain ⟨o, es, n, h1, h2⟩ := D a ha; exact ⟨o, es, n, F.keep a o h1, h2⟩
  · rw [frs_cons hf] at q
    rcases List.mem_cons.mp q with z | z
    · exact (N p (hfp p hp)).2.1 z
    · obtain ⟨o, ho⟩ := frame_in B z
      rw [(N p (hfp p hp)).2.2] at ho; cases ho

theorem back_call {led' : List (Addr × Obj)} {h' : Heap} (F : Fr g L s.heap m) (N : News g L s.heap news) (hf : env.frame = some L)
    (hg : ∀ a o, g.get? a = some o → a ∉ frs outer → (groundOf s.heap fp (frs (env :: outer))).get? a = some o)
    (hfp : ∀ p ∈ fp, p ∈ news) (hrest : ∀ p ∈ rest, p ∈ news ∧ p.1 ∉ fp.map (·.1))
    (q : QEnds (groundOf s.heap fp (frs (env :: outer))) (frs (env :: outer)) s.heap h') (l : Led (groundOf s.heap fp (frs (env :: outer))) (frs (env :: outer)) h' led') :
    Fr g L h' m ∧ News g L h' (led' ++ rest) := by
  have hk : ∀ a o, s.heap.get? a = some o → a ∉ fp.map (·.1) → h'.get? a = some o := fun a o e hna => by
    by_cases hm : a ∈ frs (env :: outer)
    · exact q.frame a o e hm
    · exact q.stays a o (ground_get e hna hm)
  have hgk : ∀ a o, g.get? a = some o → h'.get? a = some o := fun a o e => hk a o (F.keep a o e) fun z => by
    obtain ⟨p, hp, rfl⟩ := List.mem_map.mp z
    have := (N p (hfp p hp)).2.2; rw [this] at e; cases e
  obtain ⟨oL, es, ep, hL, r⟩ := F.ns
  refine ⟨⟨⟨oL, es, ep, q.frame L oL hL (by rw [frs_cons hf]; exact .head _), r⟩, hgk, F.above⟩, fun p hp => ?_⟩
  rcases List.mem_append.mp hp with hp | hp
  · refine ⟨(l.at_ p hp).1, fun z => (l.at_ p hp).2.2 (by rw [frs_cons hf, z]; exact .head _), ?_⟩
    cases e : g.get? p.1 with
    | none => rfl
    | some o =>
      by_cases hm : p.1 ∈ frs outer
      · exact absurd (by rw [frs_cons hf]; exact .tail _ hm) (l.at_ p hp).2.2
      · have := hg _ _ e hm; rw [(l.at_ p hp).2.1] at this; cases this
  · have hp' := (hrest p hp).1
    exact ⟨hk _ _ (N p hp').1 (hrest p hp).2, (N p hp').2⟩

theorem useQ (XB : (hd.heap_39 w.params).In base) (TB : Top P loose mean mg mb base) (B : Below A₀ base outer g) (D : KtsDicts (frs outer) g) (F : Fr g L s.heap m) (N : News g L s.heap news)
    (hA : A.frames = some (env :: outer)) (hf : env.frame = some L) (hke : env.scope.kind = .function) (hh : A.handled = none) (hdp : A.depth + d < recursionLimit) (hu : A.units + u < cLine)
    (hfp : ∀ p ∈ fp, p ∈ news) (hnd : (fp.map (·.1)).Nodup) (hrest : ∀ p ∈ rest, p ∈ news ∧ p.1 ∉ fp.map (·.1))
    (C : ∀ b, (∀ a o, g.get? a = some o → a ∉ frs outer → b.get? a = some o) → base.StaysIn b → (∀ p ∈ rest, b.get? p.1 = some p.2) → Quiet w mean mg mb f d u args fp b Post)
    (h : ∀ r led' h' tk', Fr g L h' m → News g L h' (led' ++ rest) → (∀ p ∈ led', ∀ q ∈ rest, q.1 ≠ p.1) → (led'.map (·.1)).Nodup → Post r led' → Q r { s with heap := h', toks := tk' }) :
    wpAny (model prog w) A (call (.ref f) args) Q E s := by
  obtain ⟨S, l, hg, hb⟩ := sit_call XB TB B D F N hA hf hke hfp hnd
  have hr : ∀ p ∈ rest, (groundOf s.heap fp (frs (env :: outer))).get? p.1 = some p.2 := fun p hp => ground_get (N p (hrest p hp).1).1 (hrest p hp).2 fun z => by
    rw [frs_cons hf] at z
    rcases List.mem_cons.mp z with z | z
    · exact (N p (hrest p hp).1).2.1 z
    · obtain ⟨o, ho⟩ := frame_in B z
      rw [(N p (hrest p hp).1).2.2] at ho; cases ho
  refine wpAny_call (C _ hg hb hr A (env :: outer) s _ hh S hdp hu l fun r led' h' tk' q l' hp => ?_)
  obtain ⟨F', N'⟩ := back_call F N hf hg hfp hrest q l'
  exact h r led' h' tk' F' N' (fun p hp q hq e => by have := hr q hq; rw [e, (l'.at_ p hp).2.1] at this; cases this) l'.nodup hp
end

section
variable {w : World} {mean : ExcName → Option Value} {mg mb : Str → Option Value} {A₀ A : Around} {base g : Heap} {outer : List Env} {s : Shared} {news : List (Addr × Obj)} {env : Env} {L : Addr} {m : Str → Option Value}
  {Q : Value → Shared → Prop} {E : Value → Shared → Prop} {f : Addr} {d u : Nat} {args : List Value} {Pr : Value → Prop}

/-- a call that changes nothing of what the caller made -/
theorem useN {Post : Value → List (Addr × Obj) → Prop} (XB : (hd.heap_39 w.params).In base) (TB : Top P loose mean mg mb base) (B : Below A₀ base outer g) (D : KtsDicts (frs outer) g) (F : Fr g L s.heap m) (N : News g L s.heap news)
    (hA : A.frames = some (env :: outer)) (hf : env.frame = some L) (hke : env.scope.kind = .function) (hh : A.handled = none) (hdp : A.depth + d < recursionLimit) (hu : A.units + u < cLine)
    (C : ∀ b, (∀ a o, g.get? a = some o → a ∉ frs outer → b.get? a = some o) → base.StaysIn b → (∀ p ∈ news, b.get? p.1 = some p.2) → Quiet w mean mg mb f d u args [] b Post)
    (h : ∀ r led' h' tk', Fr g L h' m → News g L h' (led' ++ news) → (∀ p ∈ led', ∀ q ∈ news, q.1 ≠ p.1) → (led'.map (·.1)).Nodup → Post r led' → Q r { s with heap := h', toks := tk' }) :
    wpAny (model prog w) A (call (.ref f) args) Q E s :=
  useQ (fp := []) (rest := news) XB TB B D F N hA hf hke hh hdp hu (fun _ h => nomatch h) List.nodup_nil (fun p hp => ⟨hp, fun h => nomatch h⟩) C h

/-- a call that changes nothing and gives no new object -/
theorem useP (XB : (hd.heap_39 w.params).In base) (TB : Top P loose mean mg mb base) (B : Below A₀ base outer g) (D : KtsDicts (frs outer) g) (F : Fr g L s.heap m) (N : News g L s.heap news)
    (hA : A.frames = some (env :: outer)) (hf : env.frame = some L) (hke : env.scope.kind = .function) (hh : A.handled = none) (hdp : A.depth + d < recursionLimit) (hu : A.units + u < cLine)
    (C : ∀ b, (∀ a o, g.get? a = some o → a ∉ frs outer → b.get? a = some o) → base.StaysIn b → (∀ p ∈ news, b.get? p.1 = some p.2) → Quiet w mean mg mb f d u args [] b (fun r led' => led' = [] ∧ Pr r))
    (h : ∀ r h' tk', Fr g L h' m → News g L h' news → Pr r → Q r { s with heap := h', toks := tk' }) :
    wpAny (model prog w) A (call (.ref f) args) Q E s := by
  refine useQ (fp := []) (rest := news) XB TB B D F N hA hf hke hh hdp hu (fun _ h => nomatch h) List.nodup_nil (fun p hp => ⟨hp, fun h => nomatch h⟩) C fun r led' h' tk' F' N' _ _ hp => ?_
  obtain ⟨rfl, hr⟩ := hp
  exact h r h' tk' F' N' hr
end

section
variable {w : World} {mean : ExcName → Option Value} {mg mb : Str → Option Value} {A : Around} {b : Heap} {outer : List Env} {s : Shared} {fp : List (Addr × Obj)}

/-- the end of a quiet function -/
theorem ends_of {g : Heap} {L : Addr} {m : Str → Option Value} {h' : Heap} {led' : List (Addr × Obj)} (B : Below A b outer g) (hfr : ∀ a o, s.heap.get? a = some o → a ∈ frs outer → g.get? a = some o) (hL : s.heap.objs.size = L)
    (F : Fr g L h' m) (N : News g L h' led') (hnd : (led'.map (·.1)).Nodup) : QEnds b (frs outer) s.heap h' ∧ Led b (frs outer) h' led' := by
  refine ⟨⟨fun a o e => F.keep a o (B.stays a o e), ?_, fun a o e hm => F.keep a o (hfr a o e hm)⟩, ⟨fun p hp => ⟨(N p hp).1, ?_, fun z => ?_⟩, hnd⟩⟩
  · rw [hL]; exact Nat.le_of_lt F.ns.lt
  · cases e : b.get? p.1 with
    | none => rfl
    | some o => have := B.stays _ _ e; rw [(N p hp).2.2] at this; cases this
  · obtain ⟨o, ho⟩ := frame_in B z
    rw [(N p hp).2.2] at ho; cases ho

theorem quiet_of {mean : ExcName → Option Value} {mg mb : Str → Option Value} {name qual : Str} {params : Arguments} {body : List Stmt} {scope : Scope} {dV kV doc pm cdv ct oc : Value} {an od : Option Addr} {osl : Array (Option Value)} {f : Addr} {args : List Value} {binds : List (Str × Value)} {d u : Nat} {Post : Value → List (Addr × Obj) → Prop}
    (ho : (hd.heap_39 w.params).lookup f = some ⟨oc, od, .func (fnOf name qual params body scope dV kV doc pm an cdv ct), osl⟩) (hcd : codeIn (hd.heap_39 w.params) cdv qual = true)
    (hbind : ∀ s, BindsTo s (fnOf name qual params body scope dV kV doc pm an cdv ct) ⟨args, []⟩ binds) (hloc : ∀ y ∈ binds, scope.names.lookup y.1 = some .local)
    (h : ∀ (dp un : Nat) (gd : Option (List Code)) (outer : List Env) (g : Heap) (L' : Addr) (h₁ : Heap) (s : Shared) (Q : Flow → Shared → Prop), dp + d < recursionLimit → un + u < cLine →
      (hd.heap_39 w.params).In b → Top P loose mean mg mb b → b.StaysIn g →
      Fr g L' h₁ (fun y => binds.reverse.lookup y) → News g L' h₁ fp → Below (arA dp un gd outer) b outer g → (hd.heap_39 w.params).In g → Top P loose mean mg mb g → KtsDicts (frs outer) g → (fp.map (·.1)).Nodup →
      (∀ v led' h' tk' m', Fr g L' h' m' → News g L' h' led' → (led'.map (·.1)).Nodup → Post v led' → Q (.ret v) { s with heap := h', toks := tk' }) →
      wpAny (model prog w) ((arA dp un gd outer).deeper (envOf qual scope L' f cdv)) (execs body (envOf qual scope L' f cdv)) Q (fun _ _ => False) { s with heap := h₁, toks := s.toks + binds.length })
    (hco : scope.isCoroutine = false) (hgen : scope.isGenerator = false) (hk : scope.kind = .function)
    (hcell : ∀ x ∈ scope.names, x.2 ≠ .cell) : Quiet w mean mg mb f d u args fp b Post := by
  intro A outer s R hh S hdp hu l hret
  obtain ⟨hd0, dp, fr, gd, un⟩ := A
  have hh' : hd0 = none := hh
  subst hh'
  have hfr : fr = some outer := S.below.stack
  subst hfr
  refine enter S l ho hcd (by omega) (hbind s) hloc (fun g L' h₁ F N B X T D hf hL => ?_) hco hgen hk hcell
  refine wpAny_mono (h dp un gd outer g L' h₁ s _ hdp hu S.K S.T B.stays F N B X T D l.nodup fun v led' h' tk' m' F' N' nd hp => ?_) (fun _ _ x => x) fun _ _ x => x.elim
  obtain ⟨q, l'⟩ := ends_of B hf hL F' N' nd
  exact hret v led' h' tk' q l' hp
end

/-- the trees of the law: octets, or a row -/
inductive Tree where
  | leaf (x : List UInt8)
  | node (ts : List Tree)

def digits (n : Nat) : List UInt8 := if n = 0 then [] else digits (n / 256) ++ [UInt8.ofNat (n % 256)]
termination_by n
decreasing_by omega

theorem digits_zero : digits 0 = [] := by rw [digits]; simp
theorem digits_pos {n : Nat} (h : 0 < n) : digits n = digits (n / 256) ++ [UInt8.ofNat (n % 256)] := by
  rw [digits, if_neg (by omega)]

theorem digits_length : ∀ (k n : Nat), n < 256 ^ k → (digits n).length ≤ k
  | 0, n, h => by
    have : n = 0 := by simpa using h
    subst this; rw [digits_zero]; simp
  | k + 1, n, h => by
    by_cases hn : n = 0
    · subst hn; rw [digits_zero]; simp
    · rw [digits_pos (by omega), List.length_append]
      have := digits_length k (n / 256) (by rw [Nat.pow_succ] at h; exact Nat.div_lt_of_lt_mul (by rw [Nat.mul_comm]; exact h))
      simp; omega

theorem digits_ne {n : Nat} (h : 0 < n) : digits n ≠ [] := by rw [digits_pos h]; simp

theorem toNat_ofNat {n : Nat} (h : n < 256) : (UInt8.ofNat n).toNat = n := by
  show n % 256 = n
  omega

/-- the first digit is not nought -/
theorem digits_first : ∀ (k n : Nat), n < 256 ^ k → 0 < n → ((digits n).getD 0 0).toNat ≠ 0
  | 0, n, h, h0 => by simp at h; omega
  | k + 1, n, h, h0 => by
    rw [digits_pos h0]
    by_cases hq : n / 256 = 0
    · rw [hq, digits_zero]
      have : n < 256 := by omega
      simp only [List.nil_append, List.getD_cons_zero]
      rw [toNat_ofNat (by omega)]; omega
    · have ih := digits_first k (n / 256) (by rw [Nat.pow_succ] at h; exact Nat.div_lt_of_lt_mul (by rw [Nat.mul_comm]; exact h)) (by omega)
      cases hd : digits (n / 256) with
      | nil => exact absurd hd (digits_ne (by omega))
      | cons c r => rw [hd] at ih; simpa using ih

theorem digits_value : ∀ (k n : Nat), n < 256 ^ k → (digits n).foldl (fun (a : Nat) (b : UInt8) => a * 256 + b.toNat) 0 = n
  | 0, n, h => by
    have : n = 0 := by simpa using h
    subst this; rw [digits_zero]; rfl
  | k + 1, n, h => by
    by_cases hn : n = 0
    · subst hn; rw [digits_zero]; rfl
    · rw [digits_pos (by omega), List.foldl_append, digits_value k (n / 256) (by rw [Nat.pow_succ] at h; exact Nat.div_lt_of_lt_mul (by rw [Nat.mul_comm]; exact h))]
      simp only [List.foldl_cons, List.foldl_nil]
      rw [toNat_ofNat (by omega)]; omega

/-- what stands ahead of a payload of n octets -/
def head (base n : Nat) : List UInt8 := if n < 56 then [UInt8.ofNat (base + n)] else UInt8.ofNat (base + 55 + (digits n).length) :: digits n

abbrev alone (x : List UInt8) : Prop := x.length = 1 ∧ (x.getD 0 0).toNat < 128

mutual
def code : Tree → List UInt8
  | .leaf x => if alone x then x else head 128 x.length ++ x
  | .node ts => head 192 (body ts).length ++ body ts
def body : List Tree → List UInt8
  | [] => []
  | t :: ts => code t ++ body ts
end

theorem body_append (xs ys : List Tree) : body (xs ++ ys) = body xs ++ body ys := by
  induction xs with
  | nil => rw [List.nil_append]; simp [body]
  | cons t r ih => rw [List.cons_append, body, body, ih, List.append_assoc]

theorem body_take {ts : List Tree} {i : Nat} (h : i < ts.length) : body (ts.take (i + 1)) = body (ts.take i) ++ code ts[i] := by
  rw [List.take_succ_eq_append_getElem h, body_append]
  simp [body]

/-- rows at most n deep, five parts at most, octets of 56 at most -/
def Deep : Nat → Tree → Prop
  | _, .leaf x => x.length ≤ 56
  | 0, .node _ => False
  | n + 1, .node ts => ts.length ≤ 5 ∧ ∀ t ∈ ts, Deep n t

theorem Deep.leaf {n : Nat} {x : List UInt8} (h : Deep n (.leaf x)) : x.length ≤ 56 := by cases n <;> exact h
theorem Deep.of_leaf {n : Nat} {x : List UInt8} (h : x.length ≤ 56) : Deep n (.leaf x) := by cases n <;> exact h

theorem Deep.up : ∀ {n : Nat} {t : Tree}, Deep n t → Deep (n + 1) t
  | _, .leaf _, h => h.leaf
  | 0, .node _, h => h.elim
  | _ + 1, .node _, h => ⟨h.1, fun t ht => Deep.up (h.2 t ht)⟩

/-- octets of a tree n deep, at most -/
def most : Nat → Nat
  | 0 => 60
  | n + 1 => 5 * most n + 9

theorem head_length {base n : Nat} (h : n < 16777216) : (head base n).length ≤ 4 := by
  unfold head
  split
  · simp
  · simp only [List.length_cons]
    have := digits_length 3 n (by omega)
    omega

theorem body_length_le {k : Nat} : ∀ (ts : List Tree), (∀ t ∈ ts, (code t).length ≤ k) → (body ts).length ≤ ts.length * k
  | [], _ => by simp [body]
  | t :: ts, h => by
    rw [body, List.length_append, List.length_cons]
    have h1 := h t (List.mem_cons_self ..)
    have h2 := body_length_le ts fun t' ht => h t' (List.mem_cons_of_mem _ ht)
    rw [Nat.add_mul]; omega

theorem most_le : most 0 = 60 ∧ most 1 = 309 ∧ most 2 = 1554 ∧ most 3 = 7779 := by decide

theorem code_length : ∀ {n : Nat} {t : Tree}, n ≤ 3 → Deep n t → (code t).length ≤ most n ∧ (∀ ts, t = .node ts → (body ts).length ≤ most n)
  | n, .leaf x, hn, h => by
    have hx := h.leaf
    have hm : 60 ≤ most n := by
      cases n with
      | zero => decide
      | succ k => show 60 ≤ 5 * most k + 9; have : 60 ≤ most k := by
                    induction k with
                    | zero => decide
                    | succ j ih => show 60 ≤ 5 * most j + 9; have := ih (by omega) (Deep.of_leaf hx); omega
                  omega
    refine ⟨?_, fun ts e => by cases e⟩
    rw [code]
    split
    · omega
    · rw [List.length_append]; have := head_length (base := 128) (n := x.length) (by omega); omega
  | 0, .node _, _, h => h.elim
  | n + 1, .node ts, hn, h => by
    have hb := body_length_le ts fun t ht => (code_length (Nat.le_of_succ_le hn) (h.2 t ht)).1
    have h5 : (body ts).length ≤ 5 * most n := Nat.le_trans hb (Nat.mul_le_mul_right _ h.1)
    have hm : most n ≤ 7779 := by
      obtain ⟨a, b, c, d⟩ := most_le
      have : n = 0 ∨ n = 1 ∨ n = 2 := by omega
      rcases this with rfl | rfl | rfl <;> omega
    refine ⟨?_, fun ts' e => by cases e; show _ ≤ 5 * most n + 9; omega⟩
    rw [code, List.length_append]
    have := head_length (base := 192) (n := (body ts).length) (by omega)
    show _ ≤ 5 * most n + 9
    omega

theorem code_pos : ∀ (t : Tree), 0 < (code t).length
  | .leaf x => by
    rw [code]
    split
    · rename_i h; have := h.1; omega
    · rw [List.length_append]; unfold head; split <;> simp <;> omega
  | .node ts => by
    rw [code, List.length_append]; unfold head; split <;> simp <;> omega

/-- a tree where a value stands; H says what is where -/
inductive IsTree (H : Addr → Obj → Prop) : Value → Tree → Prop where
  | leaf (x : List UInt8) (t : Tok) : IsTree H (.bytes x.toArray t) (.leaf x)
  | node {a : Addr} {vs : List Value} {n : Nat} {ts : List Tree} : H a (listOf vs.toArray n) → vs.length = ts.length → (∀ (i : Nat) (v : Value) (t : Tree), vs[i]? = some v → ts[i]? = some t → IsTree H v t) → IsTree H (.ref a) (.node ts)

theorem IsTree.mono {H H' : Addr → Obj → Prop} (k : ∀ a o, H a o → H' a o) {v : Value} {t : Tree} (h : IsTree H v t) : IsTree H' v t := by
  induction h with
  | leaf x t => exact .leaf x t
  | node hl hn _ ih => exact .node (k _ _ hl) hn ih

abbrev inHeap (h : Heap) : Addr → Obj → Prop := fun a o => h.get? a = some o
abbrev inLed (l : List (Addr × Obj)) : Addr → Obj → Prop := fun a o => (a, o) ∈ l

/-- values that hold trees, one by one -/
def AreTrees (H : Addr → Obj → Prop) (vs : List Value) (ts : List Tree) : Prop := vs.length = ts.length ∧ ∀ (i : Nat) (v : Value) (t : Tree), vs[i]? = some v → ts[i]? = some t → IsTree H v t
theorem AreTrees.mono {H H' : Addr → Obj → Prop} (k : ∀ a o, H a o → H' a o) {vs : List Value} {ts : List Tree} (h : AreTrees H vs ts) : AreTrees H' vs ts := ⟨h.1, fun i v t a b => (h.2 i v t a b).mono k⟩
theorem AreTrees.nil {H : Addr → Obj → Prop} : AreTrees H [] [] := ⟨rfl, fun i v t a => by simp at a⟩
theorem AreTrees.cons {H : Addr → Obj → Prop} {v : Value} {t : Tree} {vs : List Value} {ts : List Tree} (a : IsTree H v t) (b : AreTrees H vs ts) : AreTrees H (v :: vs) (t :: ts) :=
  ⟨by rw [List.length_cons, List.length_cons, b.1], fun i v' t' h1 h2 => by
    cases i with
    | zero => simp at h1 h2; subst h1 h2; exact a
    | succ j => simp at h1 h2; exact b.2 j v' t' h1 h2⟩
theorem AreTrees.append {H : Addr → Obj → Prop} {vs ws : List Value} {ts us : List Tree} (a : AreTrees H vs ts) (b : AreTrees H ws us) : AreTrees H (vs ++ ws) (ts ++ us) :=
  ⟨by rw [List.length_append, List.length_append, a.1, b.1], fun i v t h1 h2 => by
    by_cases hi : i < vs.length
    · rw [List.getElem?_append_left hi] at h1
      rw [List.getElem?_append_left (by rw [← a.1]; exact hi)] at h2
      exact a.2 i v t h1 h2
    · rw [List.getElem?_append_right (by omega)] at h1
      rw [List.getElem?_append_right (by rw [← a.1]; omega)] at h2
      rw [a.1] at h1
      exact b.2 _ v t h1 h2⟩

theorem body_bound {n : Nat} (hn : n ≤ 3) {ts : List Tree} (h5 : ts.length ≤ 5) (hd : ∀ t ∈ ts, Deep n t) : (body ts).length ≤ 38895 := by
  have h1 := body_length_le (k := 7779) ts fun t ht => by
    have := (code_length hn (hd t ht)).1
    obtain ⟨a, b, c, d⟩ := most_le
    have : n = 0 ∨ n = 1 ∨ n = 2 ∨ n = 3 := by omega
    rcases this with rfl | rfl | rfl | rfl <;> omega
  have := Nat.mul_le_mul_right 7779 h5
  omega
theorem take_bound {n : Nat} (hn : n ≤ 3) {ts : List Tree} (h5 : ts.length ≤ 5) (hd : ∀ t ∈ ts, Deep n t) (i : Nat) : (body (ts.take i)).length ≤ 38895 :=
  body_bound hn (by rw [List.length_take]; omega) fun t ht => hd t (List.mem_of_mem_take ht)

theorem byte_cast {k : Int} {n : Nat} (h : k = (n : Int)) : k.toNat.toUInt8 = UInt8.ofNat n := by subst h; rfl
theorem leaf_alone {x : List UInt8} (h1 : (x.length : Int) = 1) (h2 : (((x.getD 0 0).toNat : Nat) : Int) < 128) : code (.leaf x) = x := by
  rw [code, if_pos ⟨by omega, by omega⟩]
theorem leaf_short {x : List UInt8} (h : ¬ ((x.length : Int) = 1 ∧ (((x.getD (Int.toNat 0) 0).toNat : Nat) : Int) < 128)) (h1 : x.length < 56) : code (.leaf x) = [(128 + (x.length : Int)).toNat.toUInt8] ++ x := by
  have h' : ¬ alone x := fun q => h ⟨by have := q.1; omega, by have : (x.getD (Int.toNat 0) 0).toNat < 128 := q.2; omega⟩
  rw [code, if_neg h', head, if_pos h1, byte_cast (n := 128 + x.length) (by push_cast; rfl)]
theorem leaf_long {x : List UInt8} (h1 : ¬ x.length < 56) : code (.leaf x) = [(128 + 55 + ((digits x.length).length : Int)).toNat.toUInt8] ++ digits x.length ++ x := by
  rw [code, if_neg (by intro q; have := q.1; omega), head, if_neg h1, byte_cast (n := 128 + 55 + (digits x.length).length) (by push_cast; rfl)]
  rfl
theorem node_short {ts : List Tree} (h1 : (body ts).length < 56) : code (.node ts) = [(192 + ((body ts).length : Int)).toNat.toUInt8] ++ body ts := by
  rw [code, head, if_pos h1, byte_cast (n := 192 + (body ts).length) (by push_cast; rfl)]
theorem node_long {ts : List Tree} (h1 : ¬ (body ts).length < 56) : code (.node ts) = [(192 + 55 + ((digits (body ts).length).length : Int)).toNat.toUInt8] ++ digits (body ts).length ++ body ts := by
  rw [code, head, if_neg h1, byte_cast (n := 192 + 55 + (digits (body ts).length).length) (by push_cast; rfl)]
  rfl

section
variable {prog : Program} {w : World} {A : Around} {E : Value → Shared → Prop} {s : Shared} {h₀ : Heap} {L : Addr} {m : Str → Option Value} {news : List (Addr × Obj)}

theorem list_at {l : Addr} {its : Array Value} {n : Nat} (N : News h₀ L s.heap news) (hm : (l, listOf its n) ∈ news) : s.heap.IsList l its := ⟨_, (N _ hm).1, rfl, n, rfl⟩

theorem truthy_led {l : Addr} {vs : List Value} {n : Nat} {Q : Bool → Shared → Prop} (N : News h₀ L s.heap news) (hm : (l, listOf vs.toArray n) ∈ news) (hfit : vs.toArray.size ≤ sizeLine)
    (h : Q (!vs.isEmpty) { s with toks := s.toks + 1 + 1 }) : wpAny (model prog w) A (truthy (.ref l)) Q E s :=
  wpAny_truthy_list (list_at N hm) (by rw [sizeLine_eq] at hfit; omega) (by rw [List.isEmpty_toArray]; exact h)

theorem pop0_led {news' : List (Addr × Obj)} {D : Addr} {n : Nat} {u : Tok} {y : Value} {q : List Value} {Q : Value → Shared → Prop} (F : Fr h₀ L s.heap m) (N : News h₀ L s.heap news) (U : Upd D (listOf (y :: q).toArray n) (listOf q.toArray (n + 1)) news news')
    (hz : (y :: q).length ≤ sizeLine) (h : ∀ h', Fr h₀ L h' m → News h₀ L h' news' → Q y { s with heap := h' }) : wpAny (model prog w) A (call (.builtin "list.pop") [.ref D, .int 0 u]) Q E s := by
  have hk : seqIndex? 0 (y :: q).toArray.size = some 0 := by
    unfold seqIndex?
    simp
  exact kl_popAt (p := []) F N rfl hk rfl U hz h
end

def Paused (p : Prop) : Prop := p
theorem pause {p : Prop} (h : Paused p) : p := h
theorem Paused.on {p : Prop} (h : p) : Paused p := h

section
variable {prog : Program} {w : World} {A : Around} {E : Value → Shared → Prop} {s : Shared} {g : Heap} {L : Addr} {m : Str → Option Value} {K : Frag} {x dx : Addr}
theorem isi_obj {Q : Value → Shared → Prop} (F : Fr g L s.heap m) (X : K.In g) (hx : g.get? x = some (instObj 115 dx)) (e : isIn K (.ref 115) 115 = true) (h : Q (.bool true) s) :
    wpAny (model prog w) A (call (.builtin "isinstance") [.ref x, .ref 115]) Q E s :=
  isi_call (t := .ref 115) (X.keeps F.keep) (fun _ => (Looks.ld (F.keep _ _ hx)).andThen .now) e (by intro e; cases e) h
end
theorem News.sub {h₀ h : Heap} {L : Addr} {l l' : List (Addr × Obj)} (N : News h₀ L h l) (hs : ∀ p ∈ l', p ∈ l) : News h₀ L h l' := fun p hp => N p (hs p hp)
theorem sub_one {p : Addr × Obj} {l : List (Addr × Obj)} (h : p ∈ l) : ∀ q ∈ [p], q ∈ l := fun q hq => by
  rw [List.mem_singleton] at hq; subst hq; exact h
theorem apart_lt {l : List (Addr × Obj)} {d : Addr} (h : ∀ p ∈ l, p.1 < d) : ∀ p ∈ l, p.1 ≠ d := fun p hp => Nat.ne_of_lt (h p hp)
theorem in_of {K : Frag} {h₀ h : Heap} {L : Addr} {m : Str → Option Value} (F : Fr h₀ L h m) (X : K.In h₀) : K.In h := X.keeps F.keep

section
variable {prog : Program} {w : World} {A : Around} {E : Value → Shared → Prop} {s : Shared} {h₀ : Heap} {L : Addr} {m : Str → Option Value} {news : List (Addr × Obj)}

theorem by_len {x : List UInt8} {t : Tok} {Q : Value → Shared → Prop} (hz : x.length ≤ 16777216) (h : ∀ t' k, Q (.int (x.length : Int) t') { s with toks := k }) :
    wpAny (model prog w) A (call (.builtin "len") [.bytes x.toArray t]) Q E s :=
  KBw.len_K (ks := x.map fun c => (c.toNat : Int)) rfl (by rw [List.length_map]; omega) (by rw [List.length_map]; exact h _ _)

theorem by_add {x y : List UInt8} {t u : Tok} {Q : Value → Shared → Prop} (hz : x.length + y.length ≤ 16777216) (h : ∀ t' k, Q (.bytes (x ++ y).toArray t') { s with toks := k }) :
    wpAny (model prog w) A (binaryOp .Add (.bytes x.toArray t) (.bytes y.toArray u)) Q E s :=
  bytes_add_K (by simpa using hz) rfl h

theorem by_item {x : List UInt8} {i : Int} {j : Nat} {t ui : Tok} {value slice : Expr} {Q : Value → Shared → Prop} (hz : x.length ≤ 16777216) (hj : i = (j : Int)) (h1 : j < x.length)
    (h : ∀ t' k, Q (.int ((x.getD j 0).toNat : Int) t') { s with toks := k })
    (hs : subscripted slice false (.bytes x.toArray t) (.int i ui) = operate [.bytes x.toArray t, .int i ui] (getItem (.bytes x.toArray t) (.int i ui)) := by with_unfolding_all rfl)
    (ht : ∀ r, letTemporaryGo value (.bytes x.toArray t) r = pure () := by intro _; with_unfolding_all rfl) : wpAny (model prog w) A (subscriptTail value slice (.bytes x.toArray t) (.int i ui)) Q E s := by
  subst hj
  exact bytes_item_K (by omega) (by omega) (by omega) rfl (h _ _) hs ht

theorem clip_in {n j : Nat} (h : j ≤ n) : clipAt n (j : Int) = j := by
  have := clipAt_cast n (j : Int)
  rw [if_neg (by omega)] at this
  omega
theorem clip_over {n j : Nat} (h : n ≤ j) : clipAt n (j : Int) = n := by
  have := clipAt_cast n (j : Int)
  rw [if_neg (by omega)] at this
  omega

theorem by_slice {x : List UInt8} {lo hi : Int} {i j : Nat} {t t1 t2 : Tok} {value slice : Expr} {Q : Value → Shared → Prop} (F : Fr h₀ L s.heap m) (N : News h₀ L s.heap news) (hz : x.length ≤ 16777216) (hi' : lo = (i : Int)) (hj' : hi = (j : Int)) (hij : i ≤ j) (hj : j ≤ x.length)
    (h : ∀ h' t' k, Fr h₀ L h' m → News h₀ L h' news → Q (.bytes ((x.drop i).take (j - i)).toArray t') { s with heap := h', toks := k })
    (hs : subscripted slice false (.bytes x.toArray t) (.ref s.heap.objs.size) = operate [.ref s.heap.objs.size, .bytes x.toArray t] (getItem (.bytes x.toArray t) (.ref s.heap.objs.size)) := by with_unfolding_all rfl)
    (ht : ∀ r, letTemporaryGo value (.bytes x.toArray t) r = pure () := by intro _; with_unfolding_all rfl) :
    wpAny (model prog w) A (subscriptTail value slice (.bytes x.toArray t) (.ref s.heap.objs.size)) Q E { s with heap := s.heap.push { cls := .type "slice", data := .fields #[.int lo t1, .int hi t2, .none] } } := by
  subst hi' hj'
  refine KBc.slice_K F N (ks := x.map fun c => (c.toNat : Int)) rfl (.int _ _) (.int _ _) (by rw [List.length_map]; exact hz) (fun h' t' k F' N' _ => ?_) hs ht
  rw [KBc.picked_eq]
  simp only [Option.elim, List.size_toArray]
  rw [clip_in (by omega), clip_in (by omega)]
  exact h h' t' k F' N'

/-- one octet made of an int -/
theorem byte_toNat {n : Int} (h0 : 0 ≤ n) (h1 : n < 256) : n.toNat.toUInt8 = UInt8.ofNat n.toNat := rfl

theorem fdiv_cast (a b : Nat) : Int.fdiv (a : Int) (b : Int) = ((a / b : Nat) : Int) := by
  rw [Int.fdiv_eq_ediv_of_nonneg _ (by omega)]; rfl
theorem fmod_cast (a b : Nat) : Int.fmod (a : Int) (b : Int) = ((a % b : Nat) : Int) := by
  rw [Int.fmod_eq_emod_of_nonneg _ (by omega)]; rfl
end
theorem fdiv_nat (a : Nat) (b : Int) (k : Nat) (h : b = (k : Int)) : Int.fdiv (a : Int) b = ((a / k : Nat) : Int) := by subst h; exact fdiv_cast a k
theorem fmod_nat (a : Nat) (b : Int) (k : Nat) (h : b = (k : Int)) : Int.fmod (a : Int) b = ((a % k : Nat) : Int) := by subst h; exact fmod_cast a k
theorem byte_of (n : Nat) : ((n : Int)).toNat.toUInt8 = UInt8.ofNat n := rfl

/-- what stands at a place, or between two, of octets -/
def ItemAt (x : List UInt8) (i k : Int) : Prop := ∃ j : Nat, i = (j : Int) ∧ j < x.length ∧ ((x.getD j 0).toNat : Int) = k
def SliceAt (x : List UInt8) (lo hi : Int) (y : List UInt8) : Prop := ∃ i j : Nat, lo = (i : Int) ∧ hi = (j : Int) ∧ i ≤ j ∧ j ≤ x.length ∧ (x.drop i).take (j - i) = y

section
variable {prog : Program} {w : World} {A : Around} {E : Value → Shared → Prop} {s : Shared} {h₀ : Heap} {L : Addr} {m : Str → Option Value} {news : List (Addr × Obj)}
theorem by_itemAt {x : List UInt8} {i k : Int} {t ui : Tok} {value slice : Expr} {Q : Value → Shared → Prop} (hI : ItemAt x i k) (hz : x.length ≤ 16777216)
    (h : ∀ t' k', Q (.int k t') { s with toks := k' })
    (hs : subscripted slice false (.bytes x.toArray t) (.int i ui) = operate [.bytes x.toArray t, .int i ui] (getItem (.bytes x.toArray t) (.int i ui)) := by with_unfolding_all rfl)
    (ht : ∀ r, letTemporaryGo value (.bytes x.toArray t) r = pure () := by intro _; with_unfolding_all rfl) : wpAny (model prog w) A (subscriptTail value slice (.bytes x.toArray t) (.int i ui)) Q E s := by
  obtain ⟨j, hj, h1, rfl⟩ := hI
  exact by_item hz hj h1 h hs ht
theorem by_sliceAt {x y : List UInt8} {lo hi : Int} {t t1 t2 : Tok} {value slice : Expr} {Q : Value → Shared → Prop} (hS : SliceAt x lo hi y) (F : Fr h₀ L s.heap m) (N : News h₀ L s.heap news) (hz : x.length ≤ 16777216)
    (h : ∀ h' t' k, Fr h₀ L h' m → News h₀ L h' news → Q (.bytes y.toArray t') { s with heap := h', toks := k })
    (hs : subscripted slice false (.bytes x.toArray t) (.ref s.heap.objs.size) = operate [.ref s.heap.objs.size, .bytes x.toArray t] (getItem (.bytes x.toArray t) (.ref s.heap.objs.size)) := by with_unfolding_all rfl)
    (ht : ∀ r, letTemporaryGo value (.bytes x.toArray t) r = pure () := by intro _; with_unfolding_all rfl) :
    wpAny (model prog w) A (subscriptTail value slice (.bytes x.toArray t) (.ref s.heap.objs.size)) Q E { s with heap := s.heap.push { cls := .type "slice", data := .fields #[.int lo t1, .int hi t2, .none] } } := by
  obtain ⟨i, j, h1, h2, h3, h4, rfl⟩ := hS
  exact by_slice F N hz h1 h2 h3 h4 h hs ht
end

/-- how a turn of a loop must end -/
def LoopEnd (L : Addr) (J : Heap → (Str → Option Value) → List (Addr × Obj) → Prop) (I : Addr) (o : Obj) (s : Shared) (Q : Flow → Shared → Prop) (f : Flow) (s' : Shared) : Prop :=
  match f with
  | .ret v => Q (.ret v) s'
  | .brk => Q .next s'
  | _ => ∃ g' m' news' h' tk', s' = { s with heap := h', toks := tk' } ∧ Fr g' L h' m' ∧ News g' L h' ((I, o) :: news') ∧ (∀ p ∈ news', p.1 ≠ I) ∧ J g' m' news'

section
variable {prog : Program} {w : World} {A : Around} {s : Shared} {env : Env} {x : Str} {px : Pos} {body : List Stmt} {Q : Flow → Shared → Prop} {g : Heap} {m : Str → Option Value} {news : List (Addr × Obj)}

abbrev LoopOver (prog : Program) (w : World) (A : Around) (env : Env) (x : Str) (px : Pos) (body : List Stmt) (Q : Flow → Shared → Prop) : Value → Shared → Prop := fun it s₂ =>
  codeAny (model prog w) A (.forLoop (.Name x px) it body [] env) (fun r s' => match r with | .ok f => Q f s' | .error e => cameBackBy (model prog w) A env (fun _ _ => False) e s') s₂

theorem loop_list {L : Addr} {l : Addr} {items : Array Value} (hLe : env.locals = L) (hh : A.handled = none) (hx : env.kindOf x = some .local) (hk : env.scope.kind = .function)
    (J : Nat → Heap → (Str → Option Value) → List (Addr × Obj) → Prop) (hl : ∀ i g m news h, J i g m news → Fr g L h m → News g L h news → h.IsList l items) (F : Fr g L s.heap m) (N : News g L s.heap news) (hJ : J 0 g m news)
    (turn : ∀ i v g m news h tk I o, items[i]? = some v → J i g m news → Fr g L h (fun y => if y = x then some v else m y) → News g L h ((I, o) :: news) → (∀ p ∈ news, p.1 ≠ I) →
      wpAny (model prog w) A (execs body env) (LoopEnd L (J (i + 1)) I o s Q) (fun _ _ => False) { s with heap := h, toks := tk })
    (done : ∀ g m news h tk, J items.size g m news → Fr g L h m → News g L h news → Q .next { s with heap := h, toks := tk }) :
    wpAny (model prog w) A (pyIter (.ref l)) (LoopOver prog w A env x px body Q) (fun _ _ => False) s := by
  subst hLe
  have hp : (env.scope.kind == .class || (env.scope.kind == .module && env.locals != env.globals)) = false := by rw [hk]; rfl
  refine wpAny_pyIter_list (hl 0 g m news s.heap hJ F N) ?_
  have hI : ∀ p ∈ news, p.1 ≠ s.heap.objs.size := fun p hp => Nat.ne_of_lt (Heap.lt_size (N p hp).1)
  have N₁ := News.push F N { cls := .type "list_iterator", data := .fields #[.ref l, .int 0 0] }
  have F₁ := F.push { cls := .type "list_iterator", data := .fields #[.ref l, .int 0 0] }
  refine codeAny_forLoop
    (fun k s' => ∃ h' tk' i g' m' news' o, s' = { s with heap := h', toks := tk' } ∧ h'.IsListIter s.heap.objs.size l i ∧ Fr g' env.locals h' m' ∧ News g' env.locals h' ((s.heap.objs.size, o) :: news') ∧ (∀ p ∈ news', p.1 ≠ s.heap.objs.size) ∧ J i g' m' news' ∧ i ≤ items.size ∧ k = items.size + 1 - i)
    ?_ (items.size + 1) ⟨_, s.toks, 0, g, m, news, _, rfl, ⟨_, Heap.get?_push_size _ rfl, rfl, rfl⟩, F₁, N₁, hI, hJ, Nat.zero_le _, rfl⟩
  rintro k s' ⟨h', tk', i, g', m', news', o, rfl, hit, F', N', hI', hJ', hi, rfl⟩
  have hL := (N' _ (.head _)).2.1
  have hls := hl i g' m' news' h' hJ' F' fun p hp => N' p (.tail _ hp)
  by_cases hlt : i < items.size
  · refine wpAny_pyNext_list_item hit hls (x := items[i]) (by simp [hlt]) fun h₁ hit₁ hs₁ => ?_
    obtain ⟨o₁, ho₁, hc₁, hd₁⟩ := hit₁
    have F₁ := F'.change hs₁ hL (N' _ (.head _)).2.2
    have N₁ := News.setHead N' hI' hs₁ ho₁
    refine wpAny_assign_Name (wpAny_storeName_local hx F₁.ns (fun h₂ hn₂ hs₂ => ?_) hp)
    have F₂ := F₁.set hn₂ hs₂
    have N₂ := N₁.set hs₂
    refine wpAny_mono (turn i items[i] g' m' news' h₂ _ _ o₁ (by simp [hlt]) hJ' F₂ N₂ hI') (fun f s₃ h₃ => ?_) fun _ _ e => e.elim
    have fin : (∃ g' m' news' h' tk', s₃ = { s with heap := h', toks := tk' } ∧ Fr g' env.locals h' m' ∧ News g' env.locals h' ((s.heap.objs.size, o₁) :: news') ∧ (∀ p ∈ news', p.1 ≠ s.heap.objs.size) ∧ J (i + 1) g' m' news') →
        ∃ m, m < items.size + 1 - i ∧ ∃ h' tk' i g' m' news' o, s₃ = { s with heap := h', toks := tk' } ∧ h'.IsListIter s.heap.objs.size l i ∧ Fr g' env.locals h' m' ∧ News g' env.locals h' ((s.heap.objs.size, o) :: news') ∧ (∀ p ∈ news', p.1 ≠ s.heap.objs.size) ∧ J i g' m' news' ∧ i ≤ items.size ∧ m = items.size + 1 - i := by
      rintro ⟨g₄, m₄, news₄, h₄, tk₄, rfl, F₄, N₄, hI₄, hJ₄⟩
      exact ⟨items.size + 1 - (i + 1), by omega, h₄, tk₄, i + 1, g₄, m₄, news₄, o₁, rfl, ⟨o₁, (N₄ _ (.head _)).1, hc₁, hd₁⟩, F₄, N₄, hI₄, hJ₄, hlt, rfl⟩
    cases f with
    | ret v => exact h₃
    | brk => exact h₃
    | next => exact fin h₃
    | cont => exact fin h₃
  · have hin : i = items.size := by omega
    subst hin
    refine wpAny_pyNext_list_end hh hit hls (by simp) fun h₁ he₁ => wpAny_execs_nil ?_
    have F₁ : Fr g' env.locals h₁ m' := ⟨F'.ns.extBut he₁ (Ne.symm hL), fun b o e => he₁ b o (fun q => by rw [q, (N' _ (.head _)).2.2] at e; cases e) (F'.keep b o e), F'.above⟩
    exact done g' m' news' h₁ _ hJ' F₁ fun p hp => ⟨he₁ _ _ (hI' p hp) (N' p (.tail _ hp)).1, (N' p (.tail _ hp)).2⟩

theorem loop_range {L : Addr} {r : Addr} {a b c : Int} {t u v : Tok} {n : Nat} (hLe : env.locals = L) (hh : A.handled = none) (hx : env.kindOf x = some .local) (hk : env.scope.kind = .function)
    (J : Nat → Heap → (Str → Option Value) → List (Addr × Obj) → Prop) (hr : IsRange s.heap r a b c t u v) (hsmall : Builtin.Range.small a b c = true) (hn : Builtin.Range.rangeSize a b c = (n : Int))
    (F : Fr g L s.heap m) (N : News g L s.heap news) (hJ : J 0 g m news)
    (turn : ∀ i t g m news h tk I o, i < n → J i g m news → Fr g L h (fun y => if y = x then some (.int (a + (i : Int) * c) t) else m y) → News g L h ((I, o) :: news) → (∀ p ∈ news, p.1 ≠ I) →
      wpAny (model prog w) A (execs body env) (LoopEnd L (J (i + 1)) I o s Q) (fun _ _ => False) { s with heap := h, toks := tk })
    (done : ∀ g m news h tk, J n g m news → Fr g L h m → News g L h news → Q .next { s with heap := h, toks := tk }) :
    wpAny (model prog w) A (pyIter (.ref r)) (LoopOver prog w A env x px body Q) (fun _ _ => False) s := by
  subst hLe
  have hp : (env.scope.kind == .class || (env.scope.kind == .module && env.locals != env.globals)) = false := by rw [hk]; rfl
  refine wpAny_pyIter_range hr hsmall ?_
  rw [hn]
  have hI : ∀ p ∈ news, p.1 ≠ s.heap.objs.size := fun p hp => Nat.ne_of_lt (Heap.lt_size (N p hp).1)
  have N₁ := News.push F N { cls := .type "range_iterator", data := .fields #[rawInt a, rawInt (n : Int), rawInt c] }
  have F₁ := F.push { cls := .type "range_iterator", data := .fields #[rawInt a, rawInt (n : Int), rawInt c] }
  refine codeAny_forLoop
    (fun k s' => ∃ h' tk' i g' m' news' o, s' = { s with heap := h', toks := tk' } ∧ IsRangeIter h' s.heap.objs.size (a + (i : Nat) * c) ((n : Int) - (i : Nat)) c ∧ Fr g' env.locals h' m' ∧ News g' env.locals h' ((s.heap.objs.size, o) :: news') ∧ (∀ p ∈ news', p.1 ≠ s.heap.objs.size) ∧ J i g' m' news' ∧ i ≤ n ∧ k = n + 1 - i)
    ?_ (n + 1) ⟨_, s.toks, 0, g, m, news, _, rfl, (by simpa using Heap.get?_push_size _ rfl), F₁, N₁, hI, hJ, Nat.zero_le _, rfl⟩
  rintro k s' ⟨h', tk', i, g', m', news', o, rfl, hit, F', N', hI', hJ', hi, rfl⟩
  have hL := (N' _ (.head _)).2.1
  by_cases hlt : i < n
  · refine wpAny_pyNext_range_item hit (by omega) fun h₁ hit₁ hs₁ => ?_
    have F₁ := F'.change hs₁ hL (N' _ (.head _)).2.2
    have N₁ := News.setHead N' hI' hs₁ hit₁
    refine wpAny_assign_Name (wpAny_storeName_local hx F₁.ns (fun h₂ hn₂ hs₂ => ?_) hp)
    have F₂ := F₁.set hn₂ hs₂
    have N₂ := N₁.set hs₂
    refine wpAny_mono (turn i _ g' m' news' h₂ _ _ _ hlt hJ' F₂ N₂ hI') (fun f s₃ h₃ => ?_) fun _ _ e => e.elim
    have fin : (∃ g' m' news' h' tk', s₃ = { s with heap := h', toks := tk' } ∧ Fr g' env.locals h' m' ∧ News g' env.locals h' ((s.heap.objs.size, { cls := .type "range_iterator", data := .fields #[rawInt (a + (i : Int) * c + c), rawInt ((n : Int) - (i : Int) - 1), rawInt c] }) :: news') ∧ (∀ p ∈ news', p.1 ≠ s.heap.objs.size) ∧ J (i + 1) g' m' news') →
        ∃ m, m < n + 1 - i ∧ ∃ h' tk' i g' m' news' o, s₃ = { s with heap := h', toks := tk' } ∧ IsRangeIter h' s.heap.objs.size (a + (i : Nat) * c) ((n : Int) - (i : Nat)) c ∧ Fr g' env.locals h' m' ∧ News g' env.locals h' ((s.heap.objs.size, o) :: news') ∧ (∀ p ∈ news', p.1 ≠ s.heap.objs.size) ∧ J i g' m' news' ∧ i ≤ n ∧ m = n + 1 - i := by
      rintro ⟨g₄, m₄, news₄, h₄, tk₄, rfl, F₄, N₄, hI₄, hJ₄⟩
      have e1 : a + ((i + 1 : Nat) : Int) * c = a + (i : Int) * c + c := by push_cast; rw [Int.add_mul, Int.one_mul, Int.add_assoc]
      have e2 : (n : Int) - ((i + 1 : Nat) : Int) = (n : Int) - (i : Int) - 1 := by push_cast; omega
      refine ⟨n + 1 - (i + 1), by omega, h₄, tk₄, i + 1, g₄, m₄, news₄, _, rfl, ?_, F₄, N₄, hI₄, hJ₄, hlt, rfl⟩
      rw [e1, e2]
      exact (N₄ _ (.head _)).1
    cases f with
    | ret v => exact h₃
    | brk => exact h₃
    | next => exact fin h₃
    | cont => exact fin h₃
  · have hin : i = n := by omega
    subst hin
    refine wpAny_pyNext_range_end hh hit (by omega) fun h₁ he₁ => wpAny_execs_nil ?_
    have F₁ : Fr g' env.locals h₁ m' := ⟨F'.ns.extBut he₁ (Ne.symm hL), fun b o e => he₁ b o (fun q => by rw [q, (N' _ (.head _)).2.2] at e; cases e) (F'.keep b o e), F'.above⟩
    exact done g' m' news' h₁ _ hJ' F₁ fun p hp => ⟨he₁ _ _ (hI' p hp) (N' p (.tail _ hp)).1, (N' p (.tail _ hp)).2⟩

theorem For_loop {iter : Expr} {pos : Pos} (h : wpAny (model prog w) A (eval iter env) (fun x' s₁ => wpAny (model prog w) A (pyIter x') (LoopOver prog w A env x px body Q) (fun _ _ => False) s₁) (fun _ _ => False) s)
    (hs : ∀ x', foldedSetIterable iter env x' = pure x' := by intro _; rfl) : wpAny (model prog w) A (exec (.For (.Name x px) iter body [] pos) env) Q (fun _ _ => False) s := wpAny_For h hs
end

/-- a lazy row as it stands in the heap -/
structure RowSt where
  x : Addr
  dx : Addr
  el : Addr
  kw : Addr
  t0 : Tok
  t1 : Tok
  t2 : Tok
  t3 : Tok
  t4 : Tok
  t5 : Tok
  t6 : Tok
  t7 : Tok
  code : List UInt8
  tc : Tok
  first : Int
  tf : Tok
  last : Int
  tl : Tok
  idx : Int
  ti : Tok
  len : Value
  els : List Value
  ne : Nat

def rowEnts (P : Params) (r : RowSt) : List DictEntry := [
  ⟨PyData.keyHash P (Str.ofString "rlp"), .str (Str.ofString "rlp") r.t0, .bytes r.code.toArray r.tc⟩,
  ⟨PyData.keyHash P (Str.ofString "start"), .str (Str.ofString "start") r.t1, .int r.first r.tf⟩,
  ⟨PyData.keyHash P (Str.ofString "end"), .str (Str.ofString "end") r.t2, .int r.last r.tl⟩,
  ⟨PyData.keyHash P (Str.ofString "index"), .str (Str.ofString "index") r.t3, .int r.idx r.ti⟩,
  ⟨PyData.keyHash P (Str.ofString "_elements"), .str (Str.ofString "_elements") r.t4, .ref r.el⟩,
  ⟨PyData.keyHash P (Str.ofString "_len"), .str (Str.ofString "_len") r.t5, r.len⟩,
  ⟨PyData.keyHash P (Str.ofString "sedes"), .str (Str.ofString "sedes") r.t6, .none⟩,
  ⟨PyData.keyHash P (Str.ofString "sedes_kwargs"), .str (Str.ofString "sedes_kwargs") r.t7, .ref r.kw⟩]

def rowLed (w : World) (r : RowSt) : List (Addr × Obj) := [(r.x, instObj 115 r.dx), (r.dx, dictOf (rowEnts w.params r) 8), (r.el, listOf r.els.toArray r.ne)]

/-- a row that nothing has been asked of -/
structure RowFresh (r : RowSt) (C : List UInt8) (lo hi : Int) : Prop where
  code : r.code = C
  first : r.first = lo
  last : r.last = hi
  idx : r.idx = lo
  len : r.len = .none
  els : r.els = []

theorem row_led_new {w : World} {g h : Heap} {L x dx el D : Addr} {o : Obj} {t0 t1 t2 t3 t4 t5 t6 t7 tc tf tl ti : Tok} {C : List UInt8} {first last idx : Int} {news : List (Addr × Obj)}
    (N : News g L h ((el, listOf #[] 0) :: (D, o) :: (x, instObj 115 dx) :: (dx, dictOf (rowEnts w.params ⟨x, dx, el, D, t0, t1, t2, t3, t4, t5, t6, t7, C, tc, first, tf, last, tl, idx, ti, .none, [], 0⟩) 8) :: news)) :
    News g L h (rowLed w ⟨x, dx, el, D, t0, t1, t2, t3, t4, t5, t6, t7, C, tc, first, tf, last, tl, idx, ti, .none, [], 0⟩ ++ news) := fun p hp => by
  rcases List.mem_append.mp hp with hp | hp
  · unfold rowLed at hp
    rcases List.mem_cons.mp hp with rfl | hp
    · exact N _ (.tail _ (.tail _ (.head _)))
    rcases List.mem_cons.mp hp with rfl | hp
    · exact N _ (.tail _ (.tail _ (.tail _ (.head _))))
    rcases List.mem_cons.mp hp with rfl | hp
    · exact N _ (.head _)
    · exact nomatch hp
  · exact N _ (.tail _ (.tail _ (.tail _ (.tail _ hp))))

local macro_rules | `(tactic| walk_at "m_enter") => `(tactic| all_goals (first | (k_dflt k_is; done) | exact fun _ => BindsTo.of_eq rfl | exact locs rfl | exact rfl | decide | skip))
local macro_rules | `(tactic| walk_at "call builtin:list.pop") => `(tactic| (k_here; k_dflt (
  ((with_reducible show wpAny _ _ (call (Value.builtin _) [Value.ref _, Value.int _ _]) _ _ _); refine' pop0_led ?F ?N ?U ?z ?_; (case F => k_asm); (case N => k_asm); (case U => k_upd); (case z => assumption))); kl_rest))
local macro_rules | `(tactic| walk_at "truthy ref") => `(tactic| (k_here; k_dflt (refine' truthy_led ?N ?m ?z ?_; (case N => k_asm); (case m => k_mem); (case z => assumption); k_whole); (try simp only [List.isEmpty_cons, List.isEmpty_nil, Bool.not_false, Bool.not_true])))
local macro_rules | `(tactic| walk_at "call builtin:len") => `(tactic| (k_here; (with_reducible show wpAny _ _ (call (Value.builtin "len") [Value.bytes (List.toArray _) _]) _ _ _); k_dflt (refine' by_len ?z ?_; (case z => first | omega | (simp; omega)); k_whole); intro _ _))
local macro_rules | `(tactic| walk_at "binaryOp Add bytes bytes") => `(tactic| (k_here; (with_reducible show wpAny _ _ (binaryOp Operator.Add (Value.bytes (List.toArray _) _) (Value.bytes (List.toArray _) _)) _ _ _); k_dflt (refine' by_add ?z ?_; (case z => first | omega | (simp; omega)); k_whole); intro _ _))
local macro_rules | `(tactic| walk_at "m_steps") => `(tactic| ((try k_fold); repeat' (first | (k_unfold; (try dsimp only)) | walk1 | (dsimp only; walk1)); (all_goals (try dsimp only))))
local macro_rules | `(tactic| walk_at "exec While Compare cons nil") => `(tactic| (k_here; refine pause ?_))
local macro_rules | `(tactic| walk_at "exec For Name Name cons nil") => `(tactic| (k_here; refine pause ?_))
local macro_rules | `(tactic| walk_at "exec For Name Call cons nil") => `(tactic| (k_here; refine pause ?_))
local macro_rules | `(tactic| walk_at "pyIter ref") => `(tactic| (k_here; refine pause ?_))
local macro_rules | `(tactic| walk_at "call ref") => `(tactic| (k_here; refine pause ?_))
local macro_rules | `(tactic| walk_at "call builtin:isinstance") => `(tactic| (k_here; (with_reducible show wpAny _ _ (call _ [Value.ref _, Value.ref _]) _ _ _); k_dflt (refine' isi_obj ?F ?X ?x ?e ?_; (case F => k_asm); (case X => k_asm); (case x => assumption); (case e => k_is); k_whole)))
local macro_rules | `(tactic| walk_at "subscriptTail") => `(tactic| (k_here; (with_reducible show wpAny _ _ (subscriptTail _ _ (Value.bytes (List.toArray _) _) (Value.int _ _)) _ _ _); (refine by_itemAt (by with_reducible assumption) (by first | assumption | omega) ?_); intro _ _))
local macro_rules | `(tactic| walk_at "subscriptTail") => `(tactic| (k_here; (with_reducible show wpAny _ _ (subscriptTail _ (Expr.Slice _ _ none _) (Value.bytes (List.toArray _) _) (Value.ref _)) _ _ _); (with_reducible rename Fr _ _ _ _ => F'); (with_reducible rename News _ _ _ _ => N'); (refine by_sliceAt (s := ⟨_, _, _, _, _⟩) (by with_reducible assumption) F' N' (by first | assumption | omega) ?_); intro h' t' k' F' N'; (try k_sweep)))
local macro_rules | `(tactic| k_room) => `(tactic| (simp only [depth_under_make, depth_under_kw, depth_deeper, depth_in1]; first | omega | (show _ + _ < _; omega)))
local macro_rules | `(tactic| k_all) => `(tactic| first | exact apart_lt (by assumption) | assumption)
local macro_rules | `(tactic| k_in) => `(tactic| first | (with_reducible assumption) | exact in_of (by with_reducible assumption) (by with_reducible assumption))

theorem fill_p10_next : PySem.Challenge.rw_eg5038_01 = PySem.Challenge.rw_eg5038_01 ∧ hd.heap_39 = hd.heap_39 := by w_top off; k_fill; exact ⟨rfl, rfl⟩

set_option maxHeartbeats 4000000 in
theorem law_next_q {w : World} {mean : ExcName → Option Value} {mg mb : Str → Option Value} {b : Heap} {l n : Nat} {vs : List Value} {ns : List Int} (hI : IntsAre vs ns) (hl : vs.length ≤ 1000) :
    Quiet w mean mg mb 126 1 10 [.ref l] [(l, listOf vs.toArray n)] b (fun r led' => ∃ n' vs' t, led' = [(l, listOf vs'.toArray n')] ∧ IntsAre vs' ns.tail ∧ vs'.length ≤ vs.length ∧ r = .int (ns.headD 0) t) := by
  have hz : vs.toArray.size ≤ sizeLine := by rw [List.size_toArray, sizeLine_eq]; omega
  have hz' : vs.length ≤ sizeLine := by rw [sizeLine_eq]; omega
  refine' quiet_of (binds := [("left", .ref l)]) ?_ ?_ ?_ ?_ ?_ ?_ ?_ ?_ ?_
  walk_at "m_enter"
  intro dp un gd outer g L h₁ s Q hdp hu XB TB hbg F N B X T D hnd hret
  cases hI with
  | nil =>
    (try k_fold)
    k_steps
    all_goals exact hret _ _ _ _ _ (by k_asm) (by k_asm) (by simp) ⟨_, _, _, rfl, .nil, Nat.le_refl _, rfl⟩
  | cons i t hI' =>
    (try k_fold)
    k_steps
    all_goals exact hret _ _ _ _ _ (by k_asm) (by k_asm) (by simp) ⟨_, _, _, rfl, hI', by simp, rfl⟩

theorem fill_p12_digits : PySem.Challenge.rw_eg5038_01 = PySem.Challenge.rw_eg5038_01 ∧ hd.heap_39 = hd.heap_39 := by w_top off; k_fill; exact ⟨rfl, rfl⟩

def digM (k : Nat) (t : Tok) (found : List UInt8) (t' : Tok) (m₀ : Str → Option Value) : Str → Option Value := fun y => if y = Str.ofString "n" then some (.int (k : Int) t) else if y = Str.ofString "found" then some (.bytes found.toArray t') else m₀ y
def digJ (k₀ : Nat) (m₀ : Str → Option Value) (j : Nat) (m : Str → Option Value) (news : List (Addr × Obj)) : Prop :=
  news = [] ∧ ∃ k t found t', m = digM k t found t' m₀ ∧ digits k₀ = digits k ++ found ∧ k ≤ j ∧ k < 16777216 ∧ found.length ≤ 3
set_option maxHeartbeats 4000000 in
theorem law_digits_q {w : World} {mean : ExcName → Option Value} {mg mb : Str → Option Value} {b : Heap} {k : Nat} {t : Tok} (hk : k < 16777216) :
    Quiet w mean mg mb 138 1 10 [.int (k : Int) t] [] b (fun r led' => led' = [] ∧ ∃ t', r = .bytes (digits k).toArray t') := by
  refine' quiet_of (binds := [("n", .int (k : Int) t)]) ?_ ?_ ?_ ?_ ?_ ?_ ?_ ?_ ?_
  walk_at "m_enter"
  intro dp un gd outer g L h₁ s Q hdp hu XB TB hbg F N B X T D hnd hret
  walk_at "m_steps"
  refine Paused.on ?_
  (rename Fr _ _ _ _ => F1); (rename News _ _ _ _ => N1)
  refine' While_inv (digJ k (fun y => List.lookup y [(Str.ofString "n", Value.int (k : Int) t)].reverse)) (n₀ := k) F1 N1 ⟨rfl, k, t, [], ?t9, ?e9, by simp, Nat.le_refl _, hk, by simp⟩ ?_ (fun _ _ h => h.elim)
  case e9 =>
    funext y
    unfold digM
    by_cases h1 : y = Str.ofString "n"
    · subst h1; rfl
    · exact (if_neg h1).symm
  · clear F1 N1
    rintro j m₁ news₁ h₂ tk₂ F2 N2 ⟨rfl, k₁, t₁, found, t₂, rfl, hdg, hkj, hk1, hfl⟩
    unfold digM at F2
    walk_at "m_steps"
    · refine' WhileStep.intro (n' := k₁ / 256) (by k_asm) News.nil ?_ ⟨rfl, k₁ / 256, ?t1, _, ?t2, ?e1, ?e2, Nat.le_refl _, by omega, ?e3⟩
      case e1 =>
        funext y
        unfold digM
        dsimp only
        rw [fdiv_nat k₁ 256 256 rfl, fmod_nat k₁ 256 256 rfl, byte_of]
        by_cases h1 : y = Str.ofString "n"
        · simp only [if_pos h1]; rfl
        · by_cases h2 : y = Str.ofString "found"
          · simp only [if_neg h1, if_pos h2]; rfl
          · simp only [if_neg h1, if_neg h2]
      · omega
      case e2 => rw [hdg, digits_pos (by omega), List.append_assoc]
      case e3 =>
        have h1 := digits_length 3 k hk
        rw [hdg, digits_pos (by omega), List.append_assoc, List.length_append] at h1
        omega
    · have : k₁ = 0 := by omega
      subst this
      have e : found = digits k := by rw [hdg, digits_zero, List.nil_append]
      exact hret _ _ _ _ _ (by k_asm) News.nil List.nodup_nil ⟨rfl, _, congrArg (fun l => Value.bytes (List.toArray l) _) e⟩

theorem fill_p14_code : PySem.Challenge.rw_eg5038_01 = PySem.Challenge.rw_eg5038_01 ∧ hd.heap_39 = hd.heap_39 := by w_top off; k_fill; exact ⟨rfl, rfl⟩

def PCode (w : World) (mean : ExcName → Option Value) (mg mb : Str → Option Value) (n : Nat) : Prop := ∀ (b : Heap) (v : Value) (t : Tree), Deep n t → IsTree (inHeap b) v t →
  Quiet w mean mg mb 152 (2 * n + 4) (40 * n + 60) [v] [] b (fun r led' => led' = [] ∧ ∃ tk, r = .bytes (code t).toArray tk)
def PBody (w : World) (mean : ExcName → Option Value) (mg mb : Str → Option Value) (n : Nat) : Prop := ∀ (b : Heap) (a : Addr) (vs : List Value) (k : Nat) (ts : List Tree), b.get? a = some (listOf vs.toArray k) → AreTrees (inHeap b) vs ts → ts.length ≤ 5 → (∀ t ∈ ts, Deep n t) →
  Quiet w mean mg mb 145 (2 * n + 5) (40 * n + 80) [.ref a] [] b (fun r led' => led' = [] ∧ ∃ tk, r = .bytes (body ts).toArray tk)

def bodyM (found : List UInt8) (t : Tok) (pv : Option Value) (m₀ : Str → Option Value) : Str → Option Value := fun y => if y = Str.ofString "found" then some (.bytes found.toArray t) else if y = Str.ofString "part" then pv else m₀ y

set_option maxHeartbeats 4000000 in
theorem body_of {w : World} {mean : ExcName → Option Value} {mg mb : Str → Option Value} {n : Nat} (hn : n ≤ 3) (C : PCode w mean mg mb n) : PBody w mean mg mb n := by
  intro b a vs k ts ha hts hlen hdeep
  refine' quiet_of (binds := [("tree", .ref a)]) ?_ ?_ ?_ ?_ ?_ ?_ ?_ ?_ ?_
  walk_at "m_enter"
  intro dp un gd outer g L h₁ s Q hdp hu XB TB hbg F N B X T D hnd hret
  walk_at "m_steps"
  refine Paused.on (For_loop ?_)
  walk_at "m_steps"
  refine Paused.on ?_
  (rename Fr _ _ _ _ => F1); (rename News _ _ _ _ => N1)
  have hlen' : vs.length = ts.length := hts.1
  refine' loop_list (L := L) (items := vs.toArray) rfl rfl rfl rfl
    (fun i g' m' news' => g' = g ∧ news' = [] ∧ ∃ t pv, m' = bodyM (body (ts.take i)) t pv (fun y => List.lookup y [(Str.ofString "tree", Value.ref a)].reverse))
    ?hl F1 N1 ⟨rfl, rfl, ?t0, none, ?e0⟩ ?turn ?done
  case hl =>
    rintro i g' m' news' h' ⟨rfl, rfl, _⟩ F' N'
    exact ⟨_, F'.keep _ _ (hbg _ _ ha), rfl, k, rfl⟩
  case e0 =>
    funext y
    unfold bodyM
    by_cases h1 : y = Str.ofString "found"
    · simp only [if_pos h1]; rfl
    · by_cases h2 : y = Str.ofString "part"
      · subst h2; rfl
      · simp only [if_neg h1, if_neg h2]
  case turn =>
    clear F1 N1
    rintro i v g' m' news' h' tk' I o hv ⟨rfl, rfl, t1, pv, rfl⟩ F1 N1 hI
    have hi : i < ts.length := by
      have := (Array.getElem?_eq_some_iff.mp hv).1
      rw [List.size_toArray] at this; omega
    have hvt : IsTree (inHeap b) v ts[i] := hts.2 i v ts[i] (by simpa using hv) (by simp [hi])
    have hd : Deep n ts[i] := hdeep _ (List.getElem_mem hi)
    unfold bodyM at F1
    walk_at "m_steps"
    refine Paused.on (useP XB TB B D F1 N1 rfl rfl rfl rfl ?_ ?_ (fun b' _ hb' _ => C b' v ts[i] hd (hvt.mono fun a o e => hb' a o e)) ?_)
    · show dp + 1 + (2 * n + 4) < recursionLimit; omega
    · show un + 3 + (40 * n + 60) < cLine; omega
    · clear F1 N1
      rintro r h' tk' F1 N1 ⟨tk2, rfl⟩
      have hz : (body (ts.take i)).length + (code ts[i]).length ≤ 16777216 := by
        have h1 := take_bound hn hlen hdeep (i + 1)
        rw [body_take hi, List.length_append] at h1; omega
      walk_at "m_steps"
      refine' ⟨_, _, [], _, _, rfl, (by k_asm), (fun p hp => (by assumption : News _ _ _ _) p (by simpa using hp)), (fun p hp => nomatch hp), rfl, rfl, ?t9, some v, ?e9⟩
      case e9 =>
        funext y
        unfold bodyM
        rw [body_take hi]
        by_cases h1 : y = Str.ofString "found"
        · simp only [if_pos h1]; rfl
        · by_cases h2 : y = Str.ofString "part"
          · simp only [if_neg h1, if_pos h2]
          · simp only [if_neg h1, if_neg h2]
  case done =>
    clear F1 N1
    rintro g' m' news' h' tk' ⟨rfl, rfl, t1, pv, rfl⟩ F1 N1
    unfold bodyM at F1
    walk_at "m_steps"
    refine hret _ [] _ _ _ (by k_asm) (by k_asm) List.nodup_nil ⟨rfl, t1, ?_⟩
    rw [List.size_toArray, hlen', List.take_length]

theorem fill_p16_code : PySem.Challenge.rw_eg5038_01 = PySem.Challenge.rw_eg5038_01 ∧ hd.heap_39 = hd.heap_39 := by w_top off; k_fill; exact ⟨rfl, rfl⟩

set_option maxHeartbeats 4000000 in
theorem code_leaf {w : World} {mean : ExcName → Option Value} {mg mb : Str → Option Value} {b : Heap} {x : List UInt8} {t : Tok} (hx : x.length ≤ 56) :
    Quiet w mean mg mb 152 4 60 [.bytes x.toArray t] [] b (fun r led' => led' = [] ∧ ∃ tk, r = .bytes (code (.leaf x)).toArray tk) := by
  refine' quiet_of (binds := [("tree", .bytes x.toArray t)]) ?_ ?_ ?_ ?_ ?_ ?_ ?_ ?_ ?_
  walk_at "m_enter"
  intro dp un gd outer g L h₁ s Q hdp hu XB TB hbg F N B X T D hnd hret
  have hdl : (digits x.length).length ≤ 3 := digits_length 3 _ (by omega)
  walk_at "m_steps"
  · exact hret _ [] _ _ _ (by k_asm) News.nil List.nodup_nil ⟨rfl, _, by rw [leaf_alone (by assumption) (by assumption)]⟩
  · exact hret _ [] _ _ _ (by k_asm) News.nil List.nodup_nil ⟨rfl, _, by rw [leaf_short (by omega) (by omega)]⟩
  · exact hret _ [] _ _ _ (by k_asm) News.nil List.nodup_nil ⟨rfl, _, by rw [leaf_short (by omega) (by omega)]⟩
  · refine Paused.on (useP XB TB B D (by k_asm) (by k_asm) rfl rfl rfl rfl ?_ ?_ (fun b' _ hb' _ => law_digits_q (by omega)) ?_)
    · show dp + 1 + 1 < recursionLimit; omega
    · show un + 3 + 10 < cLine; omega
    · rintro r h' tk' F1 N1 ⟨tk2, rfl⟩
      walk_at "m_steps"
      exact hret _ [] _ _ _ (by k_asm) News.nil List.nodup_nil ⟨rfl, _, by rw [leaf_long (by omega)]⟩

set_option maxHeartbeats 4000000 in
theorem code_node {w : World} {mean : ExcName → Option Value} {mg mb : Str → Option Value} {n : Nat} (hn : n + 1 ≤ 3) (C : PBody w mean mg mb n) {b : Heap} {a : Addr} {vs : List Value} {k : Nat} {ts : List Tree} (ha : b.get? a = some (listOf vs.toArray k)) (hts : AreTrees (inHeap b) vs ts)
    (hlen : ts.length ≤ 5) (hdeep : ∀ t ∈ ts, Deep n t) :
    Quiet w mean mg mb 152 (2 * n + 6) (40 * n + 100) [.ref a] [] b (fun r led' => led' = [] ∧ ∃ tk, r = .bytes (code (.node ts)).toArray tk) := by
  refine' quiet_of (binds := [("tree", .ref a)]) ?_ ?_ ?_ ?_ ?_ ?_ ?_ ?_ ?_
  walk_at "m_enter"
  intro dp un gd outer g L h₁ s Q hdp hu XB TB hbg F N B X T D hnd hret
  have hLs : g.IsList a vs.toArray := ⟨_, hbg _ _ ha, rfl, k, rfl⟩
  have hbl := body_bound (Nat.le_of_succ_le hn) hlen hdeep
  have hdl : (digits (body ts).length).length ≤ 3 := digits_length 3 _ (by omega)
  walk_at "m_steps"
  refine Paused.on (useP XB TB B D (by k_asm) (by k_asm) rfl rfl rfl rfl ?_ ?_ (fun b' _ hb' _ => C b' a vs k ts (hb' _ _ ha) (hts.mono hb') hlen hdeep) ?_)
  · show dp + 1 + (2 * n + 5) < recursionLimit; omega
  · show un + 3 + (40 * n + 80) < cLine; omega
  rintro r h' tk' F1 N1 ⟨tk2, rfl⟩
  walk_at "m_steps"
  · exact hret _ [] _ _ _ (by k_asm) News.nil List.nodup_nil ⟨rfl, _, by rw [node_short (by omega)]⟩
  · refine Paused.on (useP XB TB B D (by k_asm) (by k_asm) rfl rfl rfl rfl ?_ ?_ (fun b' _ hb' _ => law_digits_q (by omega)) ?_)
    · show dp + 1 + 1 < recursionLimit; omega
    · show un + 3 + 10 < cLine; omega
    · rintro r h' tk' F1 N1 ⟨tk2, rfl⟩
      walk_at "m_steps"
      exact hret _ [] _ _ _ (by k_asm) News.nil List.nodup_nil ⟨rfl, _, by rw [node_long (by omega)]⟩

theorem Quiet.weaken {w : World} {mean : ExcName → Option Value} {mg mb : Str → Option Value} {f : Addr} {d u d' u' : Nat} {args : List Value} {fp : List (Addr × Obj)} {b : Heap} {Post : Value → List (Addr × Obj) → Prop}
    (h : Quiet w mean mg mb f d u args fp b Post) (hd : d ≤ d') (hu : u ≤ u') : Quiet w mean mg mb f d' u' args fp b Post :=
  fun A outer s R hh S h1 h2 l hr => h A outer s R hh S (by omega) (by omega) l hr

theorem code_all {w : World} {mean : ExcName → Option Value} {mg mb : Str → Option Value} : ∀ n, n ≤ 3 → PCode w mean mg mb n
  | 0, _ => by
    intro b v t hd ht
    cases ht with
    | leaf x t => exact (code_leaf hd.leaf).weaken (by omega) (by omega)
    | node => exact hd.elim
  | n + 1, hn => by
    intro b v t hd ht
    cases ht with
    | leaf x t => exact (code_leaf hd.leaf).weaken (by omega) (by omega)
    | node hl hlen hts => exact (code_node hn (body_of (by omega) (code_all n (by omega))) hl ⟨hlen, hts⟩ hd.1 hd.2).weaken (by omega) (by omega)
theorem body_all {w : World} {mean : ExcName → Option Value} {mg mb : Str → Option Value} (n : Nat) (hn : n ≤ 3) : PBody w mean mg mb n := body_of hn (code_all n hn)

theorem fill_p18_same : PySem.Challenge.rw_eg5038_01 = PySem.Challenge.rw_eg5038_01 ∧ hd.heap_39 = hd.heap_39 := by w_top off; k_fill; exact ⟨rfl, rfl⟩

-- what _law_same says, of octets
set_option maxHeartbeats 4000000 in
theorem same_leaf {w : World} {mean : ExcName → Option Value} {mg mb : Str → Option Value} {b : Heap} {x : List UInt8} {t t' : Tok} (hx : x.length ≤ 56) :
    Quiet w mean mg mb 159 1 10 [.bytes x.toArray t', .bytes x.toArray t] [] b (fun r led' => led' = [] ∧ r = .bool true) := by
  refine' quiet_of (binds := [("got", .bytes x.toArray t'), ("kid", .bytes x.toArray t)]) ?_ ?_ ?_ ?_ ?_ ?_ ?_ ?_ ?_
  walk_at "m_enter"
  intro dp un gd outer g L h₁ s Q hdp hu XB TB hbg F N B X T D hnd hret
  walk_at "m_steps"
  exact hret _ [] _ _ _ (by k_asm) (by k_asm) List.nodup_nil ⟨rfl, by simp⟩

-- of a row
set_option maxHeartbeats 4000000 in
theorem same_node {w : World} {mean : ExcName → Option Value} {mg mb : Str → Option Value} {b : Heap} {a x dx : Addr} {vs : List Value} {k : Nat} (ha : b.get? a = some (listOf vs.toArray k)) (hx : b.get? x = some (instObj 115 dx)) :
    Quiet w mean mg mb 159 1 10 [.ref x, .ref a] [] b (fun r led' => led' = [] ∧ r = .bool true) := by
  refine' quiet_of (binds := [("got", .ref x), ("kid", .ref a)]) ?_ ?_ ?_ ?_ ?_ ?_ ?_ ?_ ?_
  walk_at "m_enter"
  intro dp un gd outer g L h₁ s Q hdp hu XB TB hbg F N B X T D hnd hret
  have hIx : g.get? x = some (instObj 115 dx) := hbg _ _ hx
  have hLs : g.IsList a vs.toArray := ⟨_, hbg _ _ ha, rfl, k, rfl⟩
  walk_at "m_steps"
  exact hret _ [] _ _ _ (by k_asm) (by k_asm) List.nodup_nil ⟨rfl, rfl⟩

theorem fill_p19_be : PySem.Challenge.rw_eg5038_01 = PySem.Challenge.rw_eg5038_01 ∧ hd.heap_39 = hd.heap_39 := by w_top off; k_fill; exact ⟨rfl, rfl⟩

set_option maxHeartbeats 4000000 in
theorem be_q {w : World} {mean : ExcName → Option Value} {mg mb : Str → Option Value} {b : Heap} {ds : List UInt8} {t : Tok} {n : Nat} (hl : ds.length ≤ 8) (hv : KFB.value (KBw.bInts ds.toArray) = (n : Int)) :
    Quiet w mean mg mb 55 1 20 [.bytes ds.toArray t] [] b (fun r led' => led' = [] ∧ ∃ tk, r = .int (n : Int) tk) := by
  refine' quiet_of (binds := [("value", .bytes ds.toArray t)]) ?_ ?_ ?_ ?_ ?_ ?_ ?_ ?_ ?_
  walk_at "m_enter"
  intro dp un gd outer g L h₁ s Q hdp hu XB TB hbg F N B X T D hnd hret
  walk_at "m_steps"
  refine Paused.on (KFB.call_big (ks := KBw.bInts ds.toArray) (by k_asm) (by k_mem) rfl (by rw [KBw.ints_length, List.size_toArray]; exact hl) ?_)
  intro t' k'
  rw [hv]
  exact hret _ [] _ _ _ (by k_asm) News.nil List.nodup_nil ⟨rfl, _, rfl⟩

theorem fill_p20_prefix : PySem.Challenge.rw_eg5038_01 = PySem.Challenge.rw_eg5038_01 ∧ hd.heap_39 = hd.heap_39 := by w_top off; k_fill; exact ⟨rfl, rfl⟩

abbrev tup4 (pre : List UInt8) (tp : Tok) (ty : String) (l : Int) (tl : Tok) (s : Int) (ts : Tok) : Obj := { cls := .type "tuple", data := .seq #[.bytes pre.toArray tp, .type ty, .int l tl, .int s ts] }
/-- what consume_length_prefix gives: the payload's kind, its length, where it begins -/
def PrePost (ty : String) (l s : Int) (r : Value) (led' : List (Addr × Obj)) : Prop := ∃ a pre tp l' tl s' ts, r = .ref a ∧ led' = [(a, tup4 pre tp ty l' tl s' ts)] ∧ l' = l ∧ s' = s ∧ pre.length ≤ 10

set_option maxHeartbeats 4000000 in
theorem prefix_alone {w : World} {mean : ExcName → Option Value} {mg mb : Str → Option Value} {b : Heap} {C : List UInt8} {tc tp : Tok} {p : Nat} {k : Int} (hC : C.length ≤ 16777216) (h0 : ItemAt C (p : Int) k) (hk : k < 128) :
    Quiet w mean mg mb 62 4 60 [.bytes C.toArray tc, .int (p : Int) tp] [] b (PrePost "bytes" 1 (p : Int)) := by
  refine' quiet_of (binds := [("rlp", .bytes C.toArray tc), ("start", .int (p : Int) tp)]) ?_ ?_ ?_ ?_ ?_ ?_ ?_ ?_ ?_
  walk_at "m_enter"
  intro dp un gd outer g L h₁ s Q hdp hu XB TB hbg F N B X T D hnd hret
  walk_at "m_steps"
  exact hret _ [_] _ _ _ (by k_asm) (News.sub (by k_asm) (sub_one (by k_mem))) (by simp) ⟨_, [], _, _, _, _, _, rfl, rfl, rfl, rfl, by simp⟩

set_option maxHeartbeats 4000000 in
theorem prefix_short {w : World} {mean : ExcName → Option Value} {mg mb : Str → Option Value} {b : Heap} {C : List UInt8} {tc tp : Tok} {p n : Nat} {c : UInt8} (hC : C.length ≤ 16777216) (h0 : ItemAt C (p : Int) (128 + (n : Int))) (hn : n < 56) (h1 : n = 1 → ∃ k1 : Int, ItemAt C ((p : Int) + 1) k1 ∧ 128 ≤ k1) (hs : SliceAt C (p : Int) ((p : Int) + 1) [c]) :
    Quiet w mean mg mb 62 4 60 [.bytes C.toArray tc, .int (p : Int) tp] [] b (PrePost "bytes" (n : Int) ((p : Int) + 1)) := by
  refine' quiet_of (binds := [("rlp", .bytes C.toArray tc), ("start", .int (p : Int) tp)]) ?_ ?_ ?_ ?_ ?_ ?_ ?_ ?_ ?_
  walk_at "m_enter"
  intro dp un gd outer g L h₁ s Q hdp hu XB TB hbg F N B X T D hnd hret
  walk_at "m_steps"
  · obtain ⟨k1, h2, h3⟩ := h1 (by omega)
    walk_at "m_steps"
    exact hret _ [_] _ _ _ (by k_asm) (News.sub (by k_asm) (sub_one (by k_mem))) (by simp) ⟨_, [c], _, _, _, _, _, rfl, rfl, by omega, rfl, by simp⟩
  · exact hret _ [_] _ _ _ (by k_asm) (News.sub (by k_asm) (sub_one (by k_mem))) (by simp) ⟨_, [c], _, _, _, _, _, rfl, rfl, by omega, rfl, by simp⟩

set_option maxHeartbeats 4000000 in
theorem prefix_row {w : World} {mean : ExcName → Option Value} {mg mb : Str → Option Value} {b : Heap} {C : List UInt8} {tc tp : Tok} {p n : Nat} {c : UInt8} (hC : C.length ≤ 16777216) (h0 : ItemAt C (p : Int) (192 + (n : Int))) (hn : n < 56) (hs : SliceAt C (p : Int) ((p : Int) + 1) [c]) :
    Quiet w mean mg mb 62 4 60 [.bytes C.toArray tc, .int (p : Int) tp] [] b (PrePost "list" (n : Int) ((p : Int) + 1)) := by
  refine' quiet_of (binds := [("rlp", .bytes C.toArray tc), ("start", .int (p : Int) tp)]) ?_ ?_ ?_ ?_ ?_ ?_ ?_ ?_ ?_
  walk_at "m_enter"
  intro dp un gd outer g L h₁ s Q hdp hu XB TB hbg F N B X T D hnd hret
  walk_at "m_steps"
  exact hret _ [_] _ _ _ (by k_asm) (News.sub (by k_asm) (sub_one (by k_mem))) (by simp) ⟨_, [c], _, _, _, _, _, rfl, rfl, by omega, rfl, by simp⟩

set_option maxHeartbeats 4000000 in
theorem prefix_long {w : World} {mean : ExcName → Option Value} {mg mb : Str → Option Value} {b : Heap} {C : List UInt8} {tc tp : Tok} {p : Nat} {c : UInt8} (hC : C.length ≤ 16777216) (h0 : ItemAt C (p : Int) 184) (hs : SliceAt C (p : Int) ((p : Int) + 1) [c])
    (hs1 : SliceAt C ((p : Int) + 1) ((p : Int) + 2) [56]) :
    Quiet w mean mg mb 62 4 60 [.bytes C.toArray tc, .int (p : Int) tp] [] b (PrePost "bytes" 56 ((p : Int) + 2)) := by
  have hs2 : SliceAt C ((p : Int) + 1) ((p : Int) + 1 + (184 - 183)) [56] := by
    obtain ⟨i, j, h1, h2, h3⟩ := hs1
    exact ⟨i, j, h1, by omega, h3⟩
  refine' quiet_of (binds := [("rlp", .bytes C.toArray tc), ("start", .int (p : Int) tp)]) ?_ ?_ ?_ ?_ ?_ ?_ ?_ ?_ ?_
  walk_at "m_enter"
  intro dp un gd outer g L h₁ s Q hdp hu XB TB hbg F N B X T D hnd hret
  walk_at "m_steps"
  refine Paused.on (useP XB TB B D (by k_asm) (by k_asm) rfl rfl rfl rfl ?_ ?_ (fun b' _ hb' _ => be_q (n := 56) (by decide) (by decide +kernel)) ?_)
  · show dp + 1 + 1 < recursionLimit; omega
  · show un + 3 + 20 < cLine; omega
  rintro r h' tk' F1 N1 ⟨tk2, rfl⟩
  walk_at "m_steps"
  exact hret _ [_] _ _ _ (by k_asm) (News.sub (by k_asm) (sub_one (by k_mem))) (by simp) ⟨_, [c] ++ [56], _, _, _, _, _, rfl, rfl, by omega, by omega, by simp⟩

set_option maxHeartbeats 4000000 in
theorem prefix_rowL {w : World} {mean : ExcName → Option Value} {mg mb : Str → Option Value} {b : Heap} {C : List UInt8} {tc tp : Tok} {p n k : Nat} {c d0 : UInt8} {ds : List UInt8} (hC : C.length ≤ 16777216) (h0 : ItemAt C (p : Int) (247 + (k : Int))) (hk : 1 ≤ k) (hk8 : k ≤ 8) (hs : SliceAt C (p : Int) ((p : Int) + 1) [c])
    (hs1 : SliceAt C ((p : Int) + 1) ((p : Int) + 2) [d0]) (hd0 : d0 ≠ 0) (hs2 : SliceAt C ((p : Int) + 1) ((p : Int) + 1 + (247 + (k : Int) - 192 - 56 + 1)) ds) (hds : ds.length = k) (hv : KFB.value (KBw.bInts ds.toArray) = (n : Int)) (hn : 56 ≤ n) :
    Quiet w mean mg mb 62 4 60 [.bytes C.toArray tc, .int (p : Int) tp] [] b (PrePost "list" (n : Int) ((p : Int) + 1 + k)) := by
  refine' quiet_of (binds := [("rlp", .bytes C.toArray tc), ("start", .int (p : Int) tp)]) ?_ ?_ ?_ ?_ ?_ ?_ ?_ ?_ ?_
  walk_at "m_enter"
  intro dp un gd outer g L h₁ s Q hdp hu XB TB hbg F N B X T D hnd hret
  walk_at "m_steps"
  · exact absurd (by simpa using (by assumption : ([d0] == [0]) = true)) hd0
  walk_at "m_steps"
  refine Paused.on (useP XB TB B D (by k_asm) (by k_asm) rfl rfl rfl rfl ?_ ?_ (fun b' _ hb' _ => be_q (n := n) (by omega) hv) ?_)
  · show dp + 1 + 1 < recursionLimit; omega
  · show un + 3 + 20 < cLine; omega
  rintro r h' tk' F1 N1 ⟨tk2, rfl⟩
  walk_at "m_steps"
  exact hret _ [_] _ _ _ (by k_asm) (News.sub (by k_asm) (sub_one (by k_mem))) (by simp) ⟨_, [c] ++ ds, _, _, _, _, _, rfl, rfl, by omega, by omega, by simp; omega⟩

theorem fill_p22_at : PySem.Challenge.rw_eg5038_01 = PySem.Challenge.rw_eg5038_01 ∧ hd.heap_39 = hd.heap_39 := by w_top off; k_fill; exact ⟨rfl, rfl⟩

/-- the octets y stand in C from p on -/
def AtCode (C : List UInt8) (p : Nat) (y : List UInt8) : Prop := ∃ pre post, C = pre ++ y ++ post ∧ pre.length = p

theorem AtCode.left {C y z : List UInt8} {p : Nat} (h : AtCode C p (y ++ z)) : AtCode C p y := by
  obtain ⟨pre, post, rfl, hp⟩ := h
  exact ⟨pre, z ++ post, by simp [List.append_assoc], hp⟩
theorem AtCode.right {C y z : List UInt8} {p : Nat} (h : AtCode C p (y ++ z)) : AtCode C (p + y.length) z := by
  obtain ⟨pre, post, rfl, hp⟩ := h
  exact ⟨pre ++ y, post, by simp [List.append_assoc], by rw [List.length_append, hp]⟩
theorem AtCode.bound {C y : List UInt8} {p : Nat} (h : AtCode C p y) : p + y.length ≤ C.length := by
  obtain ⟨pre, post, rfl, hp⟩ := h
  simp only [List.length_append]; omega
theorem AtCode.get {C y : List UInt8} {p i : Nat} (h : AtCode C p y) (hi : i < y.length) : C.getD (p + i) 0 = y.getD i 0 := by
  obtain ⟨pre, post, rfl, hp⟩ := h
  subst hp
  rw [List.getD_eq_getElem?_getD, List.getD_eq_getElem?_getD, List.append_assoc, List.getElem?_append_right (by omega), Nat.add_sub_cancel_left, List.getElem?_append_left hi]
theorem AtCode.item {C y : List UInt8} {p i : Nat} {q k : Int} (h : AtCode C p y) (hi : i < y.length) (hq : q = (p : Int) + i) (hk : ((y.getD i 0).toNat : Int) = k) : ItemAt C q k :=
  ⟨p + i, by omega, by have := h.bound; omega, by rw [h.get hi]; exact hk⟩
theorem AtCode.slice {C y z : List UInt8} {p i j : Nat} {lo hi : Int} (h : AtCode C p y) (hij : i ≤ j) (hj : j ≤ y.length) (hlo : lo = (p : Int) + i) (hhi : hi = (p : Int) + j) (hz : (y.drop i).take (j - i) = z) : SliceAt C lo hi z := by
  refine ⟨p + i, p + j, by omega, by omega, by omega, by have := h.bound; omega, ?_⟩
  obtain ⟨pre, post, rfl, hp⟩ := h
  subst hp
  rw [List.append_assoc, List.drop_append, List.drop_of_length_le (by omega), List.nil_append, Nat.add_sub_cancel_left, List.drop_append_of_le_length (by omega), List.take_append_of_le_length (by rw [List.length_drop]; omega)]
  rw [← hz]
  congr 1
  omega

theorem be_digits {n : Nat} (h : n < 256 ^ 8) : KFB.value (KBw.bInts (digits n).toArray) = (n : Int) := by
  have h1 := KFB.fold_cast (digits n) 0
  rw [digits_value 8 n h] at h1
  exact h1.symm

theorem prefix_leaf {w : World} {mean : ExcName → Option Value} {mg mb : Str → Option Value} {C x : List UInt8} {tc tp : Tok} {p : Nat} (hC : C.length ≤ 16777216) (hA : AtCode C p (code (.leaf x))) (hx : x.length ≤ 56) :
    ∃ l s : Int, (∀ b : Heap, Quiet w mean mg mb 62 4 60 [.bytes C.toArray tc, .int (p : Int) tp] [] b (PrePost "bytes" l s)) ∧ SliceAt C s (s + l) x ∧ s + l = (p : Int) + (code (.leaf x)).length := by
  by_cases ha : alone x
  · have e : code (.leaf x) = x := by rw [code, if_pos ha]
    rw [e] at hA ⊢
    have h1 := ha.1
    refine ⟨1, p, fun b => prefix_alone hC (hA.item (i := 0) (by omega) (by omega) rfl) (by have := ha.2; omega), hA.slice (i := 0) (j := 1) (by omega) (by omega) (by omega) (by omega) (by simp [← h1]), by omega⟩
  · by_cases h56 : x.length < 56
    · have e : code (.leaf x) = UInt8.ofNat (128 + x.length) :: x := by rw [code, if_neg ha, head, if_pos h56]; rfl
      rw [e] at hA ⊢
      refine ⟨x.length, p + 1, fun b => prefix_short (c := UInt8.ofNat (128 + x.length)) hC (hA.item (i := 0) (by simp) (by omega) ?_) h56 (fun h1 => ?_) (hA.slice (i := 0) (j := 1) (by omega) (by simp) (by omega) (by omega) (by simp)), hA.slice (i := 1) (j := x.length + 1) (by omega) (by simp) (by omega) (by omega) (by simp), by simp; omega⟩
      · rw [List.getD_cons_zero, toNat_ofNat (by omega)]; push_cast; rfl
      · refine ⟨_, hA.item (i := 1) (by simp; omega) (by omega) rfl, ?_⟩
        rw [List.getD_cons_succ]
        have : ¬ (x.getD 0 0).toNat < 128 := fun q => ha ⟨h1, q⟩
        omega
    · have h56' : x.length = 56 := by omega
      have ed : digits 56 = [56] := by rw [digits_pos (by omega), show 56 / 256 = 0 from rfl, digits_zero]; rfl
      have e : code (.leaf x) = 184 :: 56 :: x := by rw [code, if_neg ha, head, if_neg h56, h56', ed]; rfl
      rw [e] at hA ⊢
      refine ⟨56, p + 2, fun b => prefix_long (c := 184) hC (hA.item (i := 0) (by simp) (by omega) rfl) (hA.slice (i := 0) (j := 1) (by omega) (by simp) (by omega) (by omega) (by simp)) (hA.slice (i := 1) (j := 2) (by omega) (by simp) (by omega) (by omega) (by simp)),
        hA.slice (i := 2) (j := 58) (by omega) (by simp [h56']) (by omega) (by omega) (by simp [← h56']), by simp [h56']; omega⟩

theorem prefix_node {w : World} {mean : ExcName → Option Value} {mg mb : Str → Option Value} {C : List UInt8} {ts : List Tree} {tc tp : Tok} {p : Nat} (hC : C.length ≤ 16777216) (hA : AtCode C p (code (.node ts))) (hb : (body ts).length ≤ 38895) :
    ∃ s : Nat, (∀ b : Heap, Quiet w mean mg mb 62 4 60 [.bytes C.toArray tc, .int (p : Int) tp] [] b (PrePost "list" ((body ts).length : Int) (s : Int))) ∧ AtCode C s (body ts) ∧ s + (body ts).length = p + (code (.node ts)).length := by
  by_cases h56 : (body ts).length < 56
  · have e : code (.node ts) = [UInt8.ofNat (192 + (body ts).length)] ++ body ts := by rw [code, head, if_pos h56]
    have hA' := hA
    rw [e] at hA hA' ⊢
    refine ⟨p + 1, fun b => ?_, hA'.right, by simp; omega⟩
    refine prefix_row (c := UInt8.ofNat (192 + (body ts).length)) hC (hA.item (i := 0) (by simp) (by omega) ?_) h56 (hA.slice (i := 0) (j := 1) (by omega) (by simp) (by omega) (by omega) (by simp))
    rw [List.singleton_append, List.getD_cons_zero, toNat_ofNat (by omega)]; push_cast; rfl
  · have h0 : 0 < (body ts).length := by omega
    have hl : (digits (body ts).length).length ≤ 3 := digits_length 3 _ (by omega)
    have hne := digits_ne h0
    have hfirst := digits_first 3 _ (by omega) h0
    have hval := be_digits (n := (body ts).length) (by omega)
    have e : code (.node ts) = (UInt8.ofNat (192 + 55 + (digits (body ts).length).length) :: digits (body ts).length) ++ body ts := by rw [code, head, if_neg h56]
    have hA' := hA
    rw [e] at hA hA' ⊢
    generalize hds : digits (body ts).length = ds at *
    have hk : 1 ≤ ds.length := by cases ds with
      | nil => exact absurd rfl hne
      | cons c r => simp
    refine ⟨p + 1 + ds.length, fun b => ?_, by have := hA'.right; rw [List.length_cons] at this; rw [show p + 1 + ds.length = p + (ds.length + 1) by omega]; exact this, by simp; omega⟩
    have q := prefix_rowL (w := w) (mean := mean) (mg := mg) (mb := mb) (b := b) (tc := tc) (tp := tp) (p := p) (n := (body ts).length) (k := ds.length) (c := UInt8.ofNat (192 + 55 + ds.length)) (d0 := ds.getD 0 0) (ds := ds) hC
      (hA.item (i := 0) (by simp) (by omega) (by rw [List.cons_append, List.getD_cons_zero, toNat_ofNat (by omega)]; push_cast; rfl)) hk (by omega)
      (hA.slice (i := 0) (j := 1) (by omega) (by simp) (by omega) (by omega) (by simp))
      (hA.slice (i := 1) (j := 2) (by omega) (by rw [List.length_append, List.length_cons]; omega) (by omega) (by omega) (by cases ds with
        | nil => exact absurd rfl hne
        | cons c r => simp))
      (fun q => hfirst (by rw [q]; rfl))
      (hA.slice (i := 1) (j := ds.length + 1) (by omega) (by simp) (by omega) (by omega) (by simp)) rfl hval (by omega)
    have e2 : ((p + 1 + ds.length : Nat) : Int) = (p : Int) + 1 + ds.length := by push_cast; rfl
    rw [e2]; exact q

theorem fill_p24_newrow : PySem.Challenge.rw_eg5038_01 = PySem.Challenge.rw_eg5038_01 ∧ hd.heap_39 = hd.heap_39 := by w_top off; k_fill; exact ⟨rfl, rfl⟩

set_option maxHeartbeats 4000000 in
theorem new_row {w : World} {mean : ExcName → Option Value} {mg mb : Str → Option Value} {A₀ : Around} {dp un : Nat} {gd : Option (List Code)} {base g : Heap} {outer : List Env} {s : Shared} {news : List (Addr × Obj)} {cn : Str} {cs : Scope} {a : Addr} {ccd : Value} {cl : List (Str × Addr)} {L : Addr} {m : Str → Option Value} {Q : Value → Shared → Prop}
    {C : List UInt8} {tc tf tl : Tok} {first last : Int}
    (B : Below A₀ base outer g) (F : Fr g L s.heap m) (X : (hd.heap_39 w.params).In g) (N : News g L s.heap news) (T : Top P loose mean mg mb g) (hke : cs.kind = .function) (hdp : dp + 4 < recursionLimit) (hu : un + 20 < cLine)
    (h : ∀ r h' tk', Fr g L h' m → News g L h' (rowLed w r ++ news) → RowFresh r C first last → (∀ p ∈ news, p.1 < r.dx) → @LT.lt Nat _ r.dx r.x → @LT.lt Nat _ r.x r.el → Q (.ref r.x) { s with heap := h', toks := tk' }) :
    wpAny (model prog w) ((arA dp un gd outer).deeper (envX cn cs L a ccd cl)) (call (.ref 115) [.bytes C.toArray tc, .int first tf, .int last tl]) Q (fun _ _ => False) s := by
  k_dflt (refine' call_cls ?k1 ?k2 ?k3 ?k4 ?k5 ?k6 ?_; (case k1 => k_asm); (case k2 => k_asm); (case k3 => k_asm); (case k4 => k_is); (case k5 => k_is); (case k6 => k_is); k_whole; intro x' d' h' F' N' l1 l2)
  k_dflt (refine' kp_more ?k1 ?k2 ?k3 ?k4 ?k5 ?kA ?kF ?kK ?k6 ?k7 ?k8 ?kX ?kM ?kN ?kD ?kR ?kP ?kT ?kB ?_ ?c2 ?c3 ?c4 ?c5; (case kA => exact rfl); (case kF => exact rfl); (case kK => exact hke); (case k1 => k_asm); (case k2 => k_asm); (case k3 => k_asm); (case k4 => k_asm); (case k5 => k_asm); (case k6 => k_is); (case k7 => k_is); (case k8 => k_room); (case kX => kp_lit); (case kM => exact rfl); (case kN => exact rfl); (case kD => kp_flats); (case kR => exact rfl); (case kP => exact rfl); (case kT => exact fun _ => rfl); (case kB => exact fun _ => locs rfl); (case c5 => decide); (case c2 => exact rfl); (case c3 => exact rfl); (case c4 => exact rfl); k_whole; intro D' o' g' L' h' tk' l3 lo' hs' fs' FG' F' N' B' X' T'; k_lt l3; k_lt2 l2; (try dsimp only))
  walk_at "m_steps"
  exact h _ _ _ (by k_asm) (row_led_new (by k_asm)) ⟨rfl, rfl, rfl, rfl, rfl, rfl⟩ l1 l2 (by dsimp only; omega)

theorem fill_p25_rowfacts : PySem.Challenge.rw_eg5038_01 = PySem.Challenge.rw_eg5038_01 ∧ hd.heap_39 = hd.heap_39 := by w_top off; k_fill; exact ⟨rfl, rfl⟩

theorem row_nodup {w : World} {r : RowSt} (l2 : @LT.lt Nat _ r.dx r.x) (l3 : @LT.lt Nat _ r.x r.el) : ((rowLed w r).map (·.1)).Nodup := by
  show [r.x, r.dx, r.el].Nodup
  have h1 : r.x ≠ r.dx := Nat.ne_of_gt l2
  have h2 : r.x ≠ r.el := Nat.ne_of_lt l3
  have h3 : r.dx ≠ r.el := Nat.ne_of_lt (Nat.lt_trans l2 l3)
  refine List.nodup_cons.mpr ⟨?_, List.nodup_cons.mpr ⟨?_, List.nodup_cons.mpr ⟨List.not_mem_nil, List.nodup_nil⟩⟩⟩
  · intro h
    rcases List.mem_cons.mp h with h | h
    · exact h1 h
    · exact h2 (List.mem_singleton.mp h)
  · intro h; exact h3 (List.mem_singleton.mp h)
theorem cons_nodup {p : Addr × Obj} {l : List (Addr × Obj)} (h : ∀ q ∈ l, q.1 ≠ p.1) (n : (l.map (·.1)).Nodup) : ((p :: l).map (·.1)).Nodup :=
  List.nodup_cons.mpr ⟨fun hm => by
    obtain ⟨q, hq, e⟩ := List.mem_map.mp hm
    exact h q hq e, n⟩
theorem News.left {g h : Heap} {L : Addr} {l l' : List (Addr × Obj)} (N : News g L h (l ++ l')) : News g L h l := fun p hp => N p (List.mem_append_left _ hp)
theorem News.cons_left {g h : Heap} {L : Addr} {p : Addr × Obj} {l l' : List (Addr × Obj)} (N : News g L h (p :: (l ++ l'))) : News g L h (p :: l) := fun q hq => by
  rcases List.mem_cons.mp hq with rfl | hq
  · exact N _ (.head _)
  · exact N q (.tail _ (List.mem_append_left _ hq))

theorem fill_p26_payload : PySem.Challenge.rw_eg5038_01 = PySem.Challenge.rw_eg5038_01 ∧ hd.heap_39 = hd.heap_39 := by w_top off; k_fill; exact ⟨rfl, rfl⟩

abbrev tup3 (x : List UInt8) (tx : Tok) (lst : Addr) (e : Int) (te : Tok) : Obj := { cls := .type "tuple", data := .seq #[.bytes x.toArray tx, .ref lst, .int e te] }
def PayPost (x : List UInt8) (e : Int) (r : Value) (led' : List (Addr × Obj)) : Prop := ∃ a tx lst e' te, r = .ref a ∧ led' = [(a, tup3 x tx lst e' te)] ∧ e' = e

set_option maxHeartbeats 4000000 in
theorem payload_q {w : World} {mean : ExcName → Option Value} {mg mb : Str → Option Value} {b : Heap} {C pre x : List UInt8} {tc tp ts tl : Tok} {s l : Int} (hC : C.length ≤ 16777216) (hp : pre.length ≤ 10) (hx : x.length ≤ 1000) (hS : SliceAt C s (s + l) x) :
    Quiet w mean mg mb 69 1 20 [.bytes C.toArray tc, .bytes pre.toArray tp, .int s ts, .type "bytes", .int l tl] [] b (PayPost x (s + l)) := by
  refine' quiet_of (binds := [("rlp", .bytes C.toArray tc), ("prefix", .bytes pre.toArray tp), ("start", .int s ts), ("type_", .type "bytes"), ("length", .int l tl)]) ?_ ?_ ?_ ?_ ?_ ?_ ?_ ?_ ?_
  walk_at "m_enter"
  intro dp un gd outer g L h₁ s Q hdp hu XB TB hbg F N B X T D hnd hret
  walk_at "m_steps"
  all_goals exact hret _ [_] _ _ _ (by k_asm) (News.sub (by k_asm) (sub_one (by k_mem))) (by simp) ⟨_, _, _, _, _, rfl, rfl, rfl⟩

theorem fill_p28_item : PySem.Challenge.rw_eg5038_01 = PySem.Challenge.rw_eg5038_01 ∧ hd.heap_39 = hd.heap_39 := by w_top off; k_fill; exact ⟨rfl, rfl⟩

abbrev tup2 (v : Value) (e : Int) (te : Tok) : Obj := { cls := .type "tuple", data := .seq #[v, .int e te] }
def ItemLeaf (x : List UInt8) (e : Int) (r : Value) (led' : List (Addr × Obj)) : Prop := ∃ a tx e' te, r = .ref a ∧ led' = [(a, tup2 (.bytes x.toArray tx) e' te)] ∧ e' = e
def ItemNode (w : World) (C : List UInt8) (s e : Int) (r : Value) (led' : List (Addr × Obj)) : Prop := ∃ a rw e' te, r = .ref a ∧ led' = (a, tup2 (.ref rw.x) e' te) :: rowLed w rw ∧ e' = e ∧ RowFresh rw C s e

set_option maxHeartbeats 4000000 in
theorem item_leaf {w : World} {mean : ExcName → Option Value} {mg mb : Str → Option Value} {b : Heap} {C x : List UInt8} {tc tp : Tok} {p : Nat} (hC : C.length ≤ 16777216) (hA : AtCode C p (code (.leaf x))) (hx : x.length ≤ 56) :
    Quiet w mean mg mb 76 6 80 [.bytes C.toArray tc, .int (p : Int) tp] [] b (ItemLeaf x ((p : Int) + (code (.leaf x)).length)) := by
  obtain ⟨l, s0, hq, hS, he⟩ := prefix_leaf (w := w) (mean := mean) (mg := mg) (mb := mb) (tc := tc) (tp := tp) hC hA hx
  refine' quiet_of (binds := [("rlp", .bytes C.toArray tc), ("start", .int (p : Int) tp)]) ?_ ?_ ?_ ?_ ?_ ?_ ?_ ?_ ?_
  walk_at "m_enter"
  intro dp un gd outer g L h₁ s Q hdp hu XB TB hbg F N B X T D hnd hret
  walk_at "m_steps"
  refine Paused.on (useN XB TB B D (by k_asm) (by k_asm) rfl rfl rfl rfl ?_ ?_ (fun b' _ _ _ => hq b') ?_)
  · show dp + 1 + 4 < recursionLimit; omega
  · show un + 3 + 60 < cLine; omega
  rintro r led' h' tk' F1 N1 - - ⟨a, pre, tp', l', tl', s', ts', rfl, rfl, rfl, rfl, hpre⟩
  walk_at "m_steps"
  refine Paused.on (useN XB TB B D (by k_asm) (by k_asm) rfl rfl rfl rfl ?_ ?_ (fun b' _ _ _ => payload_q hC hpre (by omega) hS) ?_)
  · show dp + 1 + 1 < recursionLimit; omega
  · show un + 3 + 20 < cLine; omega
  rintro r led' h' tk' F1 N1 - - ⟨a2, tx, lst, e', te, rfl, rfl, rfl⟩
  walk_at "m_steps"
  exact hret _ [_] _ _ _ (by k_asm) (News.sub (by k_asm) (sub_one (by k_mem))) (by simp) ⟨_, _, _, _, rfl, rfl, he⟩

set_option maxHeartbeats 4000000 in
theorem item_node {w : World} {mean : ExcName → Option Value} {mg mb : Str → Option Value} {C : List UInt8} {ts : List Tree} {tc tp : Tok} {p : Nat} (hC : C.length ≤ 16777216) (hA : AtCode C p (code (.node ts))) (hb : (body ts).length ≤ 38895) :
    ∃ s : Nat, (∀ b : Heap, Quiet w mean mg mb 76 8 80 [.bytes C.toArray tc, .int (p : Int) tp] [] b (ItemNode w C (s : Int) ((p : Int) + (code (.node ts)).length))) ∧ AtCode C s (body ts) ∧ s + (body ts).length = p + (code (.node ts)).length := by
  obtain ⟨s0, hq, hS, he⟩ := prefix_node (w := w) (mean := mean) (mg := mg) (mb := mb) (tc := tc) (tp := tp) hC hA hb
  refine ⟨s0, fun b => ?_, hS, he⟩
  refine' quiet_of (binds := [("rlp", .bytes C.toArray tc), ("start", .int (p : Int) tp)]) ?_ ?_ ?_ ?_ ?_ ?_ ?_ ?_ ?_
  walk_at "m_enter"
  intro dp un gd outer g L h₁ s Q hdp hu XB TB hbg F N B X T D hnd hret
  walk_at "m_steps"
  refine Paused.on (useN XB TB B D (by k_asm) (by k_asm) rfl rfl rfl rfl ?_ ?_ (fun b' _ _ _ => hq b') ?_)
  · show dp + 1 + 4 < recursionLimit; omega
  · show un + 3 + 60 < cLine; omega
  rintro r led' h' tk' F1 N1 - - ⟨a, pre, tp', l', tl', s', ts', rfl, rfl, rfl, rfl, hpre⟩
  walk_at "m_steps"
  refine Paused.on (new_row (cl := []) B (by k_asm) X (by k_asm) T rfl (by omega) (by omega) ?_)
  intro r h' tk' F1 N1 hr l1 l2 l3
  walk_at "m_steps"
  (rename ∀ (p : Addr × Obj), p ∈ rowLed _ _ ++ _ → p.1 < _ => hlt)
  refine hret _ (_ :: rowLed w r) _ _ _ (by k_asm) (News.cons_left (by k_asm)) (cons_nodup ?_ (row_nodup l2 l3)) ⟨_, r, (s0 : Int) + (body ts).length, _, rfl, rfl, by omega, ?_⟩
  · exact fun q hq => Nat.ne_of_lt (hlt q (List.mem_append_left _ hq))
  · exact ⟨hr.code, hr.first, hr.last.trans (by omega), hr.idx, hr.len, hr.els⟩

theorem fill_p30_nextbase : PySem.Challenge.rw_eg5038_01 = PySem.Challenge.rw_eg5038_01 ∧ hd.heap_39 = hd.heap_39 := by w_top off; k_fill; exact ⟨rfl, rfl⟩

structure RowNext (r r' : RowSt) (v : Value) (e : Int) : Prop where
  x : r'.x = r.x
  dx : r'.dx = r.dx
  el : r'.el = r.el
  code : r'.code = r.code
  first : r'.first = r.first
  last : r'.last = r.last
  len : r'.len = r.len
  idx : r'.idx = e
  els : r'.els = r.els ++ [v]

def NextPost (w : World) (r : RowSt) (e : Int) (G : Value → List (Addr × Obj) → Prop) (v : Value) (led' : List (Addr × Obj)) : Prop := ∃ r' c, led' = rowLed w r' ++ c ∧ RowNext r r' v e ∧ G v c
def GotLeaf (x : List UInt8) (v : Value) (c : List (Addr × Obj)) : Prop := c = [] ∧ ∃ t, v = .bytes x.toArray t
def GotNode (w : World) (C : List UInt8) (s e : Int) (v : Value) (c : List (Addr × Obj)) : Prop := ∃ rc, c = rowLed w rc ∧ v = .ref rc.x ∧ RowFresh rc C s e

theorem sub_row {w : World} {news : List (Addr × Obj)} {x dx el kw : Addr} {ne : Nat} {t0 t1 t2 t3 t4 t5 t6 t7 tc tf tl ti : Tok} {C : List UInt8} {first last idx : Int} {len : Value} {els : List Value}
    (h1 : (x, instObj 115 dx) ∈ news) (h2 : (dx, dictOf [
  ⟨PyData.keyHash w.params (Str.ofString "rlp"), .str (Str.ofString "rlp") t0, .bytes C.toArray tc⟩,
  ⟨PyData.keyHash w.params (Str.ofString "start"), .str (Str.ofString "start") t1, .int first tf⟩,
  ⟨PyData.keyHash w.params (Str.ofString "end"), .str (Str.ofString "end") t2, .int last tl⟩,
  ⟨PyData.keyHash w.params (Str.ofString "index"), .str (Str.ofString "index") t3, .int idx ti⟩,
  ⟨PyData.keyHash w.params (Str.ofString "_elements"), .str (Str.ofString "_elements") t4, .ref el⟩,
  ⟨PyData.keyHash w.params (Str.ofString "_len"), .str (Str.ofString "_len") t5, len⟩,
  ⟨PyData.keyHash w.params (Str.ofString "sedes"), .str (Str.ofString "sedes") t6, .none⟩,
  ⟨PyData.keyHash w.params (Str.ofString "sedes_kwargs"), .str (Str.ofString "sedes_kwargs") t7, .ref kw⟩] 8) ∈ news) (h3 : (el, listOf els.toArray ne) ∈ news) :
    ∀ p ∈ rowLed w ⟨x, dx, el, kw, t0, t1, t2, t3, t4, t5, t6, t7, C, tc, first, tf, last, tl, idx, ti, len, els, ne⟩, p ∈ news := fun p hp => by
  unfold rowLed at hp
  rcases List.mem_cons.mp hp with rfl | hp
  · exact h1
  rcases List.mem_cons.mp hp with rfl | hp
  · exact h2
  rcases List.mem_cons.mp hp with rfl | hp
  · exact h3
  · exact nomatch hp

theorem News.row {g h : Heap} {L : Addr} {w : World} {news : List (Addr × Obj)} {x dx el kw : Addr} {ne : Nat} {t0 t1 t2 t3 t4 t5 t6 t7 tc tf tl ti : Tok} {C : List UInt8} {first last idx : Int} {len : Value} {els : List Value} (N : News g L h news)
    (h1 : (x, instObj 115 dx) ∈ news) (h2 : (dx, dictOf [
  ⟨PyData.keyHash w.params (Str.ofString "rlp"), .str (Str.ofString "rlp") t0, .bytes C.toArray tc⟩,
  ⟨PyData.keyHash w.params (Str.ofString "start"), .str (Str.ofString "start") t1, .int first tf⟩,
  ⟨PyData.keyHash w.params (Str.ofString "end"), .str (Str.ofString "end") t2, .int last tl⟩,
  ⟨PyData.keyHash w.params (Str.ofString "index"), .str (Str.ofString "index") t3, .int idx ti⟩,
  ⟨PyData.keyHash w.params (Str.ofString "_elements"), .str (Str.ofString "_elements") t4, .ref el⟩,
  ⟨PyData.keyHash w.params (Str.ofString "_len"), .str (Str.ofString "_len") t5, len⟩,
  ⟨PyData.keyHash w.params (Str.ofString "sedes"), .str (Str.ofString "sedes") t6, .none⟩,
  ⟨PyData.keyHash w.params (Str.ofString "sedes_kwargs"), .str (Str.ofString "sedes_kwargs") t7, .ref kw⟩] 8) ∈ news) (h3 : (el, listOf els.toArray ne) ∈ news) :
    News g L h (rowLed w ⟨x, dx, el, kw, t0, t1, t2, t3, t4, t5, t6, t7, C, tc, first, tf, last, tl, idx, ti, len, els, ne⟩) := fun p hp => N p (sub_row h1 h2 h3 p hp)
theorem row_nodup' {w : World} {r : RowSt} (h1 : @Ne Nat r.x r.dx) (h2 : @Ne Nat r.x r.el) (h3 : @Ne Nat r.dx r.el) : ((rowLed w r).map (·.1)).Nodup := by
  show [r.x, r.dx, r.el].Nodup
  refine List.nodup_cons.mpr ⟨?_, List.nodup_cons.mpr ⟨?_, List.nodup_cons.mpr ⟨List.not_mem_nil, List.nodup_nil⟩⟩⟩
  · intro h
    rcases List.mem_cons.mp h with h | h
    · exact h1 h
    · exact h2 (List.mem_singleton.mp h)
  · intro h; exact h3 (List.mem_singleton.mp h)

theorem row_apart {w : World} {r : RowSt} (h : ((rowLed w r).map (·.1)).Nodup) : @Ne Nat r.x r.dx ∧ @Ne Nat r.x r.el ∧ @Ne Nat r.dx r.el := by
  have h' : [r.x, r.dx, r.el].Nodup := h
  obtain ⟨a, h'⟩ := List.nodup_cons.mp h'
  obtain ⟨b, _⟩ := List.nodup_cons.mp h'
  exact ⟨fun e => a (by rw [e]; exact .head _), fun e => a (by rw [e]; exact .tail _ (.head _)), fun e => b (by rw [e]; exact .head _)⟩

section
variable {prog : Program} {w : World} {A : Around} {E : Value → Shared → Prop} {s : Shared} {h₀ : Heap} {L D : Addr} {m : Str → Option Value} {news news' : List (Addr × Obj)}
theorem append_led {vs : List Value} {n : Nat} {x : Value} {Q : Value → Shared → Prop} (F : Fr h₀ L s.heap m) (N : News h₀ L s.heap news) (U : Upd D (listOf vs.toArray n) (listOf (vs ++ [x]).toArray (n + 1)) news news')
    (h : ∀ h', Fr h₀ L h' m → News h₀ L h' news' → Q .none { s with heap := h' }) (hsz : vs.length ≤ sizeLine) : wpAny (model prog w) A (call (.builtin "list.append") [.ref D, x]) Q E s :=
  append_K F N (by rw [List.push_toArray]; exact U) h (by rw [List.size_toArray]; exact hsz)
end

local macro_rules | `(tactic| walk_at "call builtin:list.append") => `(tactic| (k_here; (with_reducible show wpAny _ _ (call (Value.builtin _) [Value.ref _, _]) _ _ _); k_dflt (refine' append_led ?k1 ?k2 ?k3 ?_ ?z; (case k1 => k_asm); (case k2 => k_asm); (case k3 => k_upd); (case z => first | assumption | size_fits); k_whole); intro h' F' N'; (try k_sweep)))

theorem fill_p31_next : PySem.Challenge.rw_eg5038_01 = PySem.Challenge.rw_eg5038_01 ∧ hd.heap_39 = hd.heap_39 := by w_top off; k_fill; exact ⟨rfl, rfl⟩

set_option maxHeartbeats 4000000 in
theorem next_leaf {w : World} {mean : ExcName → Option Value} {mg mb : Str → Option Value} {b : Heap} {r : RowSt} {x : List UInt8} {p : Nat} (hC : r.code.length ≤ 16777216) (hi : r.idx = (p : Int)) (hlt : (p : Int) < r.last) (hA : AtCode r.code p (code (.leaf x))) (hx : x.length ≤ 56) (hel : r.els.length ≤ sizeLine) :
    Quiet w mean mg mb 98 10 120 [.ref r.x] (rowLed w r) b (NextPost w r ((p : Int) + (code (.leaf x)).length) (GotLeaf x)) := by
  obtain ⟨x0, dx, el, kw, t0, t1, t2, t3, t4, t5, t6, t7, C, tc, first, tf, last, tl, idx, ti, len, els, ne⟩ := r
  dsimp only at hC hi hlt hA hel ⊢
  subst hi
  refine' quiet_of (binds := [("self", .ref x0)]) ?_ ?_ ?_ ?_ ?_ ?_ ?_ ?_ ?_
  walk_at "m_enter"
  intro dp un gd outer g L h₁ s Q hdp hu XB TB hbg F N B X T D hnd hret
  obtain ⟨a1, a2, a3⟩ := row_apart hnd
  dsimp only at a1 a2 a3
  unfold rowLed rowEnts at N
  dsimp only at N
  walk_at "m_steps"
  refine Paused.on (useN XB TB B D (by k_asm) (by k_asm) rfl rfl rfl rfl ?_ ?_ (fun b' _ _ _ => item_leaf hC hA hx) ?_)
  · show dp + 1 + 6 < recursionLimit; omega
  · show un + 3 + 80 < cLine; omega
  rintro r led' h' tk' F1 N1 hap - ⟨a, tx, e', te, rfl, rfl, rfl⟩
  have b1 : @Ne Nat x0 a := hap _ (.head _) _ (.head _)
  have b2 : @Ne Nat dx a := hap _ (.head _) _ (.tail _ (.head _))
  have b3 : @Ne Nat el a := hap _ (.head _) _ (.tail _ (.tail _ (.head _)))
  dsimp only [List.cons_append, List.nil_append] at N1
  walk_at "m_steps"
  (rename Fr _ _ _ _ => F9); (rename News _ _ _ _ => N9)
  have hN := News.row (w := w) (x := x0) (dx := dx) (el := el) N9 (by k_mem) (by k_mem) (by k_mem)
  exact hret _ _ _ _ _ F9 hN (row_nodup' a1 a2 a3) ⟨_, [], (List.append_nil _).symm, ⟨rfl, rfl, rfl, rfl, rfl, rfl, rfl, rfl, rfl⟩, rfl, _, rfl⟩

theorem fill_p32_nextn : PySem.Challenge.rw_eg5038_01 = PySem.Challenge.rw_eg5038_01 ∧ hd.heap_39 = hd.heap_39 := by w_top off; k_fill; exact ⟨rfl, rfl⟩

set_option maxHeartbeats 4000000 in
theorem next_node {w : World} {mean : ExcName → Option Value} {mg mb : Str → Option Value} {r : RowSt} {ts : List Tree} {p : Nat} (hC : r.code.length ≤ 16777216) (hi : r.idx = (p : Int)) (hlt : (p : Int) < r.last) (hA : AtCode r.code p (code (.node ts))) (hb : (body ts).length ≤ 38895) (hel : r.els.length ≤ sizeLine) :
    ∃ s0 : Nat, (∀ b : Heap, Quiet w mean mg mb 98 12 120 [.ref r.x] (rowLed w r) b (NextPost w r ((p : Int) + (code (.node ts)).length) (GotNode w r.code (s0 : Int) ((p : Int) + (code (.node ts)).length)))) ∧ AtCode r.code s0 (body ts) ∧ s0 + (body ts).length = p + (code (.node ts)).length := by
  obtain ⟨x0, dx, el, kw, t0, t1, t2, t3, t4, t5, t6, t7, C, tc, first, tf, last, tl, idx, ti, len, els, ne⟩ := r
  dsimp only at hC hi hlt hA hel ⊢
  subst hi
  obtain ⟨s0, hq, hS, he⟩ := item_node (w := w) (mean := mean) (mg := mg) (mb := mb) (tc := tc) (tp := ti) hC hA hb
  refine ⟨s0, fun b => ?_, hS, he⟩
  refine' quiet_of (binds := [("self", .ref x0)]) ?_ ?_ ?_ ?_ ?_ ?_ ?_ ?_ ?_
  walk_at "m_enter"
  intro dp un gd outer g L h₁ s Q hdp hu XB TB hbg F N B X T D hnd hret
  obtain ⟨a1, a2, a3⟩ := row_apart hnd
  dsimp only at a1 a2 a3
  unfold rowLed rowEnts at N
  dsimp only at N
  walk_at "m_steps"
  refine Paused.on (useN XB TB B D (by k_asm) (by k_asm) rfl rfl rfl rfl ?_ ?_ (fun b' _ _ _ => hq b') ?_)
  · show dp + 1 + 8 < recursionLimit; omega
  · show un + 3 + 80 < cLine; omega
  rintro r led' h' tk' F1 N1 hap hnd1 ⟨a, rc, e', te, rfl, rfl, rfl, hrc⟩
  have b1 : @Ne Nat x0 a := hap _ (.head _) _ (.head _)
  have b2 : @Ne Nat dx a := hap _ (.head _) _ (.tail _ (.head _))
  have b3 : @Ne Nat el a := hap _ (.head _) _ (.tail _ (.tail _ (.head _)))
  have c1 : @Ne Nat x0 rc.x := hap _ (.tail _ (.head _)) _ (.head _)
  have c2 : @Ne Nat dx rc.x := hap _ (.tail _ (.head _)) _ (.tail _ (.head _))
  have c3 : @Ne Nat el rc.x := hap _ (.tail _ (.head _)) _ (.tail _ (.tail _ (.head _)))
  have d1 : @Ne Nat x0 rc.dx := hap _ (.tail _ (.tail _ (.head _))) _ (.head _)
  have d2 : @Ne Nat dx rc.dx := hap _ (.tail _ (.tail _ (.head _))) _ (.tail _ (.head _))
  have d3 : @Ne Nat el rc.dx := hap _ (.tail _ (.tail _ (.head _))) _ (.tail _ (.tail _ (.head _)))
  have e1 : @Ne Nat x0 rc.el := hap _ (.tail _ (.tail _ (.tail _ (.head _)))) _ (.head _)
  have e2 : @Ne Nat dx rc.el := hap _ (.tail _ (.tail _ (.tail _ (.head _)))) _ (.tail _ (.head _))
  have e3 : @Ne Nat el rc.el := hap _ (.tail _ (.tail _ (.tail _ (.head _)))) _ (.tail _ (.tail _ (.head _)))
  have hndc : ((rowLed w rc).map (·.1)).Nodup := (List.nodup_cons.mp hnd1).2
  clear hap hnd1
  rw [show rowLed w rc = [(rc.x, instObj 115 rc.dx), (rc.dx, dictOf (rowEnts w.params rc) 8), (rc.el, listOf rc.els.toArray rc.ne)] from rfl] at N1
  dsimp only [List.cons_append, List.nil_append] at N1
  walk_at "m_steps"
  (rename Fr _ _ _ _ => F9); (rename News _ _ _ _ => N9)
  have hN := News.row (w := w) (x := x0) (dx := dx) (el := el) N9 (by k_mem) (by k_mem) (by k_mem)
  obtain ⟨r9, hN, hr9⟩ : ∃ r9, News g L _ (rowLed w r9) ∧ RowNext ⟨x0, dx, el, kw, t0, t1, t2, t3, t4, t5, t6, t7, C, tc, first, tf, last, tl, p, ti, len, els, ne⟩ r9 (.ref rc.x) ((p : Int) + (code (.node ts)).length) := ⟨_, hN, ⟨rfl, rfl, rfl, rfl, rfl, rfl, rfl, rfl, rfl⟩⟩
  refine hret _ (rowLed w r9 ++ rowLed w rc) _ _ _ F9 (fun p hp => ?_) ?_ ⟨r9, rowLed w rc, rfl, hr9, rc, rfl, rfl, hrc⟩
  · rcases List.mem_append.mp hp with hp | hp
    · exact hN p hp
    · refine N9 p (.tail _ ?_)
      rcases List.mem_cons.mp hp with rfl | hp
      · exact .head _
      rcases List.mem_cons.mp hp with rfl | hp
      · exact .tail _ (.head _)
      rcases List.mem_cons.mp hp with rfl | hp
      · exact .tail _ (.tail _ (.head _))
      · exact nomatch hp
  · rw [List.map_append]
    have q1 : r9.x = x0 := hr9.x
    have q2 : r9.dx = dx := hr9.dx
    have q3 : r9.el = el := hr9.el
    refine List.nodup_append.mpr ⟨row_nodup' (by rw [q1, q2]; exact a1) (by rw [q1, q3]; exact a2) (by rw [q2, q3]; exact a3), hndc, ?_⟩
    rw [show (rowLed w r9).map (·.1) = [x0, dx, el] from by rw [← q1, ← q2, ← q3]; rfl]
    have h1 : ∀ a ∈ [x0, dx, el], ∀ b ∈ [rc.x, rc.dx, rc.el], a ≠ b := by
      simp only [List.forall_mem_cons, List.not_mem_nil, false_implies, implies_true, and_true]
      exact ⟨⟨c1, d1, e1⟩, ⟨c2, d2, e2⟩, c3, d3, e3⟩
    exact h1

theorem fill_p32z_ctx : PySem.Challenge.rw_eg5038_01 = PySem.Challenge.rw_eg5038_01 ∧ hd.heap_39 = hd.heap_39 := by w_top off; k_fill; exact ⟨rfl, rfl⟩

/-- the exception that stands at e has no context -/
def Ctx0 (e : Addr) (h : Heap) : Prop := ∃ o vs, h.get? e = some o ∧ o.data = .fields vs ∧ vs[2]? = some .none
/-- a tree that lets that stand -/
def KeepsC {α : Type} (e : Addr) (t : Sem α) : Prop := ∀ (M : Model) (Γ : Ctx) (Q : α → Pos → Shared → Prop) (E : Value → Pos → Shared → Prop) (p : Pos) (s : Shared),
  Sem.wp M Γ t Q E p s → Ctx0 e s.heap → Sem.wp M Γ t (fun a p s' => Ctx0 e s'.heap ∧ Q a p s') (fun v p s' => Ctx0 e s'.heap ∧ E v p s') p s

section
variable {α β : Type} {e : Addr}
theorem KeepsC.pure {a : α} : KeepsC e (Pure.pure a) := fun _ _ _ _ _ _ h c => by
  rw [Sem.wp_pure'] at h ⊢; exact ⟨c, h⟩
theorem KeepsC.unsup {x : String} : KeepsC e (Sem.unsupported x : Sem α) := fun _ _ _ _ _ _ h _ => by
  rw [Sem.wp_unsupported] at h; exact h.elim
theorem KeepsC.bind {m : Sem α} {f : α → Sem β} (hm : KeepsC e m) (hf : ∀ a, KeepsC e (f a)) : KeepsC e (m >>= f) := fun M Γ Q E p s h c => by
  rw [Sem.wp_bind'] at h ⊢
  exact Sem.wp_mono M Γ m (fun a p' s' x => hf a M Γ Q E p' s' x.2 x.1) (fun v p' s' x => x) p s (hm M Γ _ _ p s h c)
theorem KeepsC.load {a : Addr} : KeepsC e (PySem.load a) := fun _ _ _ _ _ _ h c => by
  unfold PySem.load at h ⊢
  rw [Sem.wp_load] at h ⊢
  obtain ⟨o, ho, h⟩ := h
  refine ⟨o, ho, ?_⟩
  rw [Sem.wp_pure] at h ⊢
  exact ⟨c, h⟩
theorem KeepsC.update {a : Addr} {f : Obj → Obj} (hf : ∀ o vs, o.data = .fields vs → ∃ vs', (f o).data = .fields vs' ∧ vs'[2]? = vs[2]?) : KeepsC e (PySem.update a f) := fun _ _ _ _ _ s h c => by
  unfold PySem.update at h ⊢
  rw [Sem.wp_update] at h ⊢
  refine ⟨h.1, ?_⟩
  have h := h.2
  rw [Sem.wp_pure] at h ⊢
  refine ⟨?_, h⟩
  obtain ⟨o, vs, h1, h2, h3⟩ := c
  by_cases hae : a = e
  · subst hae
    obtain ⟨vs', h4, h5⟩ := hf o vs h2
    exact ⟨f o, vs', Heap.get?_update_self f h1 (Obj.isFreed_of_fields h4), h4, h5.trans h3⟩
  · exact ⟨o, vs, (Heap.get?_update_other _ _ hae).trans h1, h2, h3⟩
theorem KeepsC.alloc {o : Obj} : KeepsC e (PySem.alloc o) := fun _ _ _ _ _ _ h c => by
  unfold PySem.alloc at h ⊢
  rw [Sem.wp_alloc] at h ⊢
  rw [Sem.wp_pure] at h ⊢
  refine ⟨?_, h⟩
  obtain ⟨o', vs, h1, h2, h3⟩ := c
  exact ⟨o', vs, Heap.get?_push_of_some _ h1, h2, h3⟩
theorem KeepsC.stack : KeepsC e PySem.stack := fun _ _ _ _ _ _ h c => by
  unfold PySem.stack at h ⊢
  rw [Sem.wp_stack] at h ⊢
  rw [Sem.wp_pure] at h ⊢
  exact ⟨c, h⟩
theorem KeepsC.fieldsOf {v : Value} : KeepsC e (PySem.fieldsOf v) := by
  unfold PySem.fieldsOf
  cases v with
  | ref a =>
    refine .bind .load fun o => ?_
    cases o.data <;> first | exact .pure | exact .unsup
  | _ => exact .unsup
theorem KeepsC.field {v : Value} {i : Nat} : KeepsC e (PySem.field v i) := by
  unfold PySem.field
  refine .bind .fieldsOf fun vs => ?_
  cases vs[i]? <;> first | exact .pure | exact .unsup
theorem KeepsC.setField {v x : Value} {i : Nat} (hi : i ≠ 2) : KeepsC e (PySem.setField v i x) := by
  unfold PySem.setField
  cases v with
  | ref a =>
    show KeepsC e (PySem.updateField a i x)
    unfold PySem.updateField
    refine .bind .load fun o => ?_
    cases o.data with
    | fields vs =>
      dsimp only
      split
      · refine .update fun o vs hd => ⟨_, Obj.data_mapFields hd _, ?_⟩
        rw [Array.getElem?_setIfInBounds_ne hi]
      · exact .unsup
    | _ => exact .unsup
  | _ => exact .unsup
theorem KeepsC.setFlight {v : Value} {f : Option Addr} : KeepsC e (PySem.setFlight v f) := by
  unfold PySem.setFlight
  refine .bind .field fun tb => ?_
  split
  · exact .setField (by decide)
  · exact .pure
theorem KeepsC.ite {c : Prop} [Decidable c] {x y : Sem α} (hx : KeepsC e x) (hy : KeepsC e y) : KeepsC e (if c then x else y) := by
  split
  · exact hx
  · exact hy
theorem KeepsC.behind {env : Env} {outer : List Env} : KeepsC e (PySem.behindIsImport env outer) := by
  unfold PySem.behindIsImport
  repeat' (first | exact .pure | exact .field | refine KeepsC.bind ?_ fun _ => ?_ | refine KeepsC.ite ?_ ?_)
theorem KeepsC.kept {env : Env} {i : Bool} {outer : List Env} : KeepsC e (PySem.keptBack env i outer) := by
  unfold PySem.keptBack PySem.underTheClaimsCaller
  cases outer with
  | nil => repeat' (first | exact .pure | exact .stack | refine KeepsC.bind ?_ fun _ => ?_ | refine KeepsC.ite ?_ ?_)
  | cons a l => exact .pure
theorem KeepsC.ready : ∀ {l : List Env}, KeepsC e (PySem.readyFrames l)
  | [] => by unfold PySem.readyFrames; exact .pure
  | env :: outer => by
    have ih := KeepsC.ready (l := outer)
    unfold PySem.readyFrames
    cases env.frame with
    | none => exact .unsup
    | some f =>
      dsimp only
      repeat' (first | exact .pure | exact .load | exact .behind | exact .kept | exact ih | exact .update (fun o vs hd => ⟨vs, hd, rfl⟩) | refine KeepsC.bind ?_ fun _ => ?_ | refine KeepsC.ite ?_ ?_)
theorem KeepsC.frameOf {env : Env} : KeepsC e (PySem.frameOf env) := by
  unfold PySem.frameOf PySem.frameEnvs
  refine .bind (.bind .stack fun _ => .pure) fun l => .bind ?_ fun r => ?_
  · unfold PySem.frameObject
    cases l.dropWhile (·.frame != env.frame) with
    | nil => exact .pure
    | cons a l => exact .bind .ready fun _ => .pure
  · cases r <;> first | exact .pure | exact .unsup
theorem KeepsC.entryPlace {f : Addr} {b : Bool} : KeepsC e (PySem.entryPlaceOf f b) := by
  unfold PySem.entryPlaceOf
  refine .bind .stack fun l => ?_
  split <;> exact .pure
theorem KeepsC.newEntry {a b c d f : Value} {pl : List Value} : KeepsC e (PySem.EntryCells.newEntry a b c d f pl) := by
  unfold PySem.EntryCells.newEntry PySem.newFields PySem.newObj PySem.newObjAsIs
  dsimp only
  repeat' (first | exact .pure | exact .unsup | exact .alloc | refine KeepsC.bind ?_ fun _ => ?_ | refine KeepsC.ite ?_ ?_)
theorem KeepsC.note {v : Value} {env : Env} : KeepsC e (PySem.noteFrame v env) := by
  unfold PySem.noteFrame
  cases env.frame with
  | none => exact .unsup
  | some f =>
    dsimp only
    refine .bind .field fun hd => ?_
    repeat' (first | exact .pure | exact .field | exact .setField (by decide) | exact .frameOf | exact .entryPlace | exact .newEntry | refine KeepsC.bind ?_ fun _ => ?_ | refine KeepsC.ite ?_ ?_)
theorem KeepsC.leaving {v : Value} {env : Env} : KeepsC e (PySem.leaving env v) := by
  unfold PySem.leaving
  exact .bind .note fun _ => .setFlight

/-- what comes behind such a tree may count on it -/
theorem ctx_after {M : Model} {A : Around} {t : Sem α} {Q : α → Shared → Prop} {E : Value → Shared → Prop} {s : Shared} (k : KeepsC e t) (c : Ctx0 e s.heap)
    (h : wpAny M A t (fun a s' => Ctx0 e s'.heap → Q a s') (fun v s' => Ctx0 e s'.heap → E v s') s) : wpAny M A t Q E s := fun Γ p hΓ =>
  Sem.wp_mono M Γ t (fun a _ s' x => x.2 x.1) (fun v _ s' x => x.2 x.1) p s (k M Γ _ _ p s (h Γ p hΓ) c)
end
theorem ctx_made {h h' : Heap} {e : Addr} {cls : String} {args : List Value} (x : Heap.MadeExc h h' e cls args) : Ctx0 e h' := by
  obtain ⟨t, ht, _⟩ := x.there
  exact ⟨_, _, ht, rfl, rfl⟩

theorem fill_p33_raise : PySem.Challenge.rw_eg5038_01 = PySem.Challenge.rw_eg5038_01 ∧ hd.heap_39 = hd.heap_39 := by w_top off; k_fill; exact ⟨rfl, rfl⟩

/-- a call that raises X, whatever the class's own say: what it may change, how it leaves -/
def Raises (w : World) (mean : ExcName → Option Value) (mg mb : Str → Option Value) (f : Addr) (d u : Nat) (args : List Value) (fp : List (Addr × Obj)) (b : Heap) (X : String) (Post : List (Addr × Obj) → Prop) : Prop :=
  ∀ (A : Around) (outer : List Env) (s : Shared) (R : Result → Shared → Prop), A.handled = none → Sit w mean mg mb A b outer s.heap → A.depth + d < recursionLimit → A.units + u < cLine → Led b (frs outer) s.heap fp →
    (∀ e led' h' tk', RaisedSN b (hideAll s.heap (fp.map (·.1))) outer e (.type X) led' h' → (hideAll s.heap (fp.map (·.1))).UpToSlots h' → (led'.map (·.1)).Nodup → Post led' → (X = "StopIteration" → Ctx0 e h') → R (.error (.ref e)) { s with heap := h', toks := tk' }) →
    codeAny (model prog w) A (.call (.ref f) ⟨args, []⟩) R s

/-- a call that may catch on its way -/
def Loud (w : World) (mean : ExcName → Option Value) (mg mb : Str → Option Value) (f : Addr) (d u : Nat) (args : List Value) (fp : List (Addr × Obj)) (b : Heap) (Post : Value → List (Addr × Obj) → Prop) : Prop :=
  ∀ (A : Around) (outer : List Env) (s : Shared) (R : Result → Shared → Prop), A.handled = none → Sit w mean mg mb A b outer s.heap → A.depth + d < recursionLimit → A.units + u < cLine → Led b (frs outer) s.heap fp →
    (∀ r led' h' tk', Ends b (frs outer) s.heap h' → Led b (frs outer) h' led' → Post r led' → R (.ok (.ret r)) { s with heap := h', toks := tk' }) →
    codeAny (model prog w) A (.call (.ref f) ⟨args, []⟩) R s

theorem Quiet.loud {w : World} {mean : ExcName → Option Value} {mg mb : Str → Option Value} {f : Addr} {d u : Nat} {args : List Value} {fp : List (Addr × Obj)} {b : Heap} {Post : Value → List (Addr × Obj) → Prop} (h : Quiet w mean mg mb f d u args fp b Post) : Loud w mean mg mb f d u args fp b Post :=
  fun A outer s R hh S h1 h2 l hr => h A outer s R hh S h1 h2 l fun r led' h' tk' q l' hp => hr r led' h' tk' ⟨q.stays, q.size, fun a o e hm => ⟨o.slots, q.frame a o e hm⟩⟩ l' hp

theorem upTo_sub {g h h' : Heap} (k : ∀ b o, g.get? b = some o → h.get? b = some o) (u : h.UpToSlots h') : g.UpToSlots h' := fun b o e n => u b o (k b o e) n

section
variable {w : World} {mean : ExcName → Option Value} {mg mb : Str → Option Value} {A₀ A : Around} {base g : Heap} {outer : List Env} {s : Shared} {fp rest news : List (Addr × Obj)} {env : Env} {L : Addr} {m : Str → Option Value}
  {Q : Value → Shared → Prop} {E : Value → Shared → Prop} {f : Addr} {d u : Nat} {args : List Value}

theorem useR {X : String} {Post : List (Addr × Obj) → Prop} (XB : (hd.heap_39 w.params).In base) (TB : Top P loose mean mg mb base) (B : Below A₀ base outer g) (D : KtsDicts (frs outer) g) (F : Fr g L s.heap m) (N : News g L s.heap news)
    (hA : A.frames = some (env :: outer)) (hf : env.frame = some L) (hke : env.scope.kind = .function) (hh : A.handled = none) (hdp : A.depth + d < recursionLimit) (hu : A.units + u < cLine)
    (hfp : ∀ p ∈ fp, p ∈ news) (hnd : (fp.map (·.1)).Nodup) (hrest : ∀ p ∈ rest, p ∈ news ∧ p.1 ∉ fp.map (·.1))
    (C : ∀ b, (∀ a o, g.get? a = some o → a ∉ frs outer → b.get? a = some o) → base.StaysIn b → (∀ p ∈ rest, b.get? p.1 = some p.2) → Raises w mean mg mb f d u args fp b X Post)
    (h : ∀ e led' h' tk' G, RaisedSN base G (env :: outer) e (.type X) (led' ++ rest) h' → Fr g L G m → G.UpToSlots h' → (∀ p ∈ led', ∀ q ∈ rest, q.1 ≠ p.1) → (led'.map (·.1)).Nodup → Post led' → (X = "StopIteration" → Ctx0 e h') → E (.ref e) { s with heap := h', toks := tk' }) :
    wpAny (model prog w) A (call (.ref f) args) Q E s := by
  obtain ⟨S, l, hg, hb⟩ := sit_call XB TB B D F N hA hf hke hfp hnd
  have hfr : ∀ p ∈ news, p.1 ∉ frs (env :: outer) := fun p hp z => by
    rw [frs_cons hf] at z
    rcases List.mem_cons.mp z with z | z
    · exact (N p hp).2.1 z
    · obtain ⟨o, ho⟩ := frame_in B z
      rw [(N p hp).2.2] at ho; cases ho
  have hr : ∀ p ∈ rest, (groundOf s.heap fp (frs (env :: outer))).get? p.1 = some p.2 := fun p hp => ground_get (N p (hrest p hp).1).1 (hrest p hp).2 (hfr p (hrest p hp).1)
  refine wpAny_call (C _ hg hb hr A (env :: outer) s _ hh S hdp hu l fun e led' h' tk' R U nd hp hcx => ?_)
  have hsub : ∀ b o, (hideAll s.heap (news.map (·.1))).get? b = some o → (hideAll s.heap (fp.map (·.1))).get? b = some o := fun b o q => by
    refine hideAll_get _ (of_hideAll _ q) fun hm => ?_
    obtain ⟨p, hp, rfl⟩ := List.mem_map.mp hm
    rw [hideAll_none _ (List.mem_map_of_mem (hfp p hp))] at q; cases q
  have hap : ∀ p ∈ led', ∀ q ∈ rest, q.1 ≠ p.1 := fun p hp q hq e => by
    obtain ⟨_, _, _, _, hl, _⟩ := R
    have h2 := (hl p hp).2.2
    rw [← e, hr q hq] at h2; cases h2
  refine h e led' h' tk' (hideAll s.heap (news.map (·.1))) ?_ ?_ (upTo_sub hsub U) hap nd hp hcx
  · obtain ⟨B', a0, h1, h2, h3, h4⟩ := R
    refine ⟨B', a0, fun b o q => h1 b o (hb b o q), fun b o q n => h2 b o (hsub b o q) n, fun q hq => ?_, h4⟩
    rcases List.mem_append.mp hq with hq | hq
    · refine ⟨(h3 q hq).1, ?_, ?_⟩
      · cases z : (hideAll s.heap (news.map (·.1))).get? q.1 with
        | none => rfl
        | some o => have := hsub _ _ z; rw [(h3 q hq).2.1] at this; cases this
      · cases z : base.get? q.1 with
        | none => rfl
        | some o => have := hb _ _ z; rw [(h3 q hq).2.2] at this; cases this
    · have hm := (hrest q hq).1
      refine ⟨h2 _ _ (hideAll_get _ (N q hm).1 (hrest q hq).2) (hfr q hm), hideAll_none _ (List.mem_map_of_mem hm), ?_⟩
      cases z : base.get? q.1 with
      | none => rfl
      | some o => have := B.stays _ _ z; rw [(N q hm).2.2] at this; cases this
  · obtain ⟨oL, es, ep, hL, r⟩ := F.ns
    refine ⟨⟨oL, es, ep, hideAll_get _ hL fun hm => ?_, r⟩, fun b o q => hideAll_get _ (F.keep b o q) fun hm => ?_, F.above⟩
    · obtain ⟨p, hp, e⟩ := List.mem_map.mp hm
      exact (N p hp).2.1 e
    · obtain ⟨p, hp, rfl⟩ := List.mem_map.mp hm
      rw [(N p hp).2.2] at q; cases q

theorem useL {Post : Value → List (Addr × Obj) → Prop} (XB : (hd.heap_39 w.params).In base) (TB : Top P loose mean mg mb base) (B : Below A₀ base outer g) (D : KtsDicts (frs outer) g) (F : Fr g L s.heap m) (N : News g L s.heap news)
    (hA : A.frames = some (env :: outer)) (hf : env.frame = some L) (hke : env.scope.kind = .function) (hh : A.handled = none) (hdp : A.depth + d < recursionLimit) (hu : A.units + u < cLine)
    (hfp : ∀ p ∈ fp, p ∈ news) (hnd : (fp.map (·.1)).Nodup) (hrest : ∀ p ∈ rest, p ∈ news ∧ p.1 ∉ fp.map (·.1))
    (C : ∀ b, (∀ a o, g.get? a = some o → a ∉ frs outer → b.get? a = some o) → base.StaysIn b → (∀ p ∈ rest, b.get? p.1 = some p.2) → Loud w mean mg mb f d u args fp b Post)
    (h : ∀ r led' h' tk' g', KtsTurn (frs outer) g g' → Fr g' L h' m → News g' L h' (led' ++ rest) → Below A₀ base outer g' → (hd.heap_39 w.params).In g' → Top P loose mean mg mb g' → KtsDicts (frs outer) g' → (∀ p ∈ led', ∀ q ∈ rest, q.1 ≠ p.1) → (led'.map (·.1)).Nodup → Post r led' → Q r { s with heap := h', toks := tk' }) :
    wpAny (model prog w) A (call (.ref f) args) Q E s := by
  obtain ⟨S, l, hg, hb⟩ := sit_call XB TB B D F N hA hf hke hfp hnd
  have hfr : ∀ p ∈ news, p.1 ∉ frs (env :: outer) := fun p hp z => by
    rw [frs_cons hf] at z
    rcases List.mem_cons.mp z with z | z
    · exact (N p hp).2.1 z
    · obtain ⟨o, ho⟩ := frame_in B z
      rw [(N p hp).2.2] at ho; cases ho
  have hr : ∀ p ∈ rest, (groundOf s.heap fp (frs (env :: outer))).get? p.1 = some p.2 := fun p hp => ground_get (N p (hrest p hp).1).1 (hrest p hp).2 (hfr p (hrest p hp).1)
  refine wpAny_call (C _ hg hb hr A (env :: outer) s _ hh S hdp hu l fun r led' h' tk' q l' hp => ?_)
  have hap : ∀ p ∈ led', ∀ q ∈ rest, q.1 ≠ p.1 := fun p hp q hq e => by have := hr q hq; rw [e, (l'.at_ p hp).2.1] at this; cases this
  have hgo : ∀ b o, g.get? b = some o → b ∉ frs outer → h'.get? b = some o := fun b o e hn => q.stays b o (hg b o e hn)
  have hgf : ∀ b o, g.get? b = some o → b ∈ frs outer → ∃ sl, h'.get? b = some { o with slots := sl } := fun b o e hm => q.frame b o (F.keep b o e) (by rw [frs_cons hf]; exact .tail _ hm)
  obtain ⟨T, st⟩ := kts_turn_at (g := g) (h := h') (fs := frs outer) (fun b hb' => frame_in B hb') hgo hgf
  have Bl : Below A₀ base outer (ktsHeap h' (frs outer) g) := ⟨B.stack, fun b o e => T.other b o (B.stays b o e) (fun hm => by
    rw [(B.frames.mem hm).1] at e
    cases e), B.frames.of_keeps fun b o e _ => by
    obtain ⟨sl, hs⟩ := T.up e
    exact ⟨_, hs, rfl⟩⟩
  have hnone : ∀ p ∈ led', g.get? p.1 = none := fun p hp => by
    cases e : g.get? p.1 with
    | none => rfl
    | some o =>
      by_cases hm : p.1 ∈ frs outer
      · exact absurd (by rw [frs_cons hf]; exact .tail _ hm) (l'.at_ p hp).2.2
      · have := hg _ _ e hm; rw [(l'.at_ p hp).2.1] at this; cases this
  refine h r led' h' tk' _ T ?_ ?_ Bl (XB.keeps Bl.stays) (TB.keeps Bl.stays) (D.turn T) hap l'.nodup hp
  · obtain ⟨oL, es, ep, hL, r'⟩ := F.ns
    obtain ⟨sl, hs⟩ := q.frame L oL hL (by rw [frs_cons hf]; exact .head _)
    exact ⟨⟨_, es, ep, hs, r'⟩, st, by rw [T.size]; exact F.above⟩
  · intro p hp
    rcases List.mem_append.mp hp with hp | hp
    · exact ⟨(l'.at_ p hp).1, fun z => (l'.at_ p hp).2.2 (by rw [frs_cons hf, z]; exact .head _), T.none_ _ (hnone p hp)⟩
    · have hm := (hrest p hp).1
      exact ⟨q.stays _ _ (hr p hp), (N p hm).2.1, T.none_ _ (N p hm).2.2⟩
end

theorem fill_p34_raiseof : PySem.Challenge.rw_eg5038_01 = PySem.Challenge.rw_eg5038_01 ∧ hd.heap_39 = hd.heap_39 := by w_top off; k_fill; exact ⟨rfl, rfl⟩

theorem raised_turn {base g g' : Heap} {outer : List Env} {e : Addr} {cls : Value} {news : List (Addr × Obj)} {h : Heap} (T : KtsTurn (frs outer) g g') (R : RaisedSN base g' outer e cls news h) (U : g'.UpToSlots h) : RaisedSN base g outer e cls news h ∧ g.UpToSlots h := by
  obtain ⟨B', a0, h1, h2, h3, h4⟩ := R
  refine ⟨⟨B', a0, h1, fun b o q n => h2 b o (T.other b o q n) n, fun q hq => ⟨(h3 q hq).1, ?_, (h3 q hq).2.2⟩, h4⟩, fun b o q n => ?_⟩
  · cases z : g.get? q.1 with
    | none => rfl
    | some o =>
      obtain ⟨sl, hs⟩ := T.up z
      rw [(h3 q hq).2.1] at hs; cases hs
  · obtain ⟨sl, hs⟩ := T.up q
    obtain ⟨sl', hs'⟩ := U b _ hs n
    exact ⟨sl', hs'⟩

section
variable {w : World} {mean : ExcName → Option Value} {mg mb : Str → Option Value} {b : Heap} {fp : List (Addr × Obj)}
  {name qual : Str} {params : Arguments} {body : List Stmt} {scope : Scope} {dV kV doc pm cdv ct oc : Value} {an od : Option Addr} {osl : Array (Option Value)} {f : Addr} {args : List Value} {binds : List (Str × Value)} {d u : Nat}

theorem raises_of {X : String} {Post : List (Addr × Obj) → Prop}
    (ho : (hd.heap_39 w.params).lookup f = some ⟨oc, od, .func (fnOf name qual params body scope dV kV doc pm an cdv ct), osl⟩) (hcd : codeIn (hd.heap_39 w.params) cdv qual = true)
    (hbind : ∀ s, BindsTo s (fnOf name qual params body scope dV kV doc pm an cdv ct) ⟨args, []⟩ binds) (hloc : ∀ y ∈ binds, scope.names.lookup y.1 = some .local)
    (h : ∀ (dp un : Nat) (gd : Option (List Code)) (outer : List Env) (g : Heap) (L' : Addr) (h₁ : Heap) (s : Shared) (Q : Value → Shared → Prop), dp + d < recursionLimit → un + u < cLine →
      (hd.heap_39 w.params).In b → Top P loose mean mg mb b → b.StaysIn g →
      Fr g L' h₁ (fun y => binds.reverse.lookup y) → News g L' h₁ fp → Below (arA dp un gd outer) b outer g → (hd.heap_39 w.params).In g → Top P loose mean mg mb g → KtsDicts (frs outer) g → (fp.map (·.1)).Nodup →
      (∀ e led' h' tk', RaisedSN b g outer e (.type X) led' h' → g.UpToSlots h' → (led'.map (·.1)).Nodup → Post led' → (X = "StopIteration" → Ctx0 e h') → Q (.ref e) { s with heap := h', toks := tk' }) →
      wpAny (model prog w) ((arA dp un gd outer).deeper (envOf qual scope L' f cdv)) (execs body (envOf qual scope L' f cdv)) (fun _ _ => False)
        (fun e s' => wpAny (model prog w) ((arA dp un gd outer).deeper (envOf qual scope L' f cdv)) (leaving (envOf qual scope L' f cdv) e) (fun _ s'' => Q e s'') (fun e' s'' => Q e' s'') s') { s with heap := h₁, toks := s.toks + binds.length })
    (hco : scope.isCoroutine = false) (hgen : scope.isGenerator = false) (hk : scope.kind = .function)
    (hcell : ∀ x ∈ scope.names, x.2 ≠ .cell) : Raises w mean mg mb f d u args fp b X Post := by
  intro A outer s R hh S hdp hu l hret
  obtain ⟨hd0, dp, fr, gd, un⟩ := A
  have hh' : hd0 = none := hh
  subst hh'
  have hfr : fr = some outer := S.below.stack
  subst hfr
  have st := stays_hide S.below l
  have hf : ∀ a o, s.heap.get? a = some o → a ∈ frs outer → (hideAll s.heap (fp.map (·.1))).get? a = some o := fun a o e hm => hideAll_get _ e fun q => by
    obtain ⟨p, hp, rfl⟩ := List.mem_map.mp q
    exact (l.at_ p hp).2.2 hm
  have X := S.K.keeps S.below.stays
  refine codeAny_call_def (fd := fnOf name qual params body scope dV kV doc pm an cdv ct) (body := body) (binds := binds) (by omega) (X _ _ ho) rfl (S.T.nolimit.keeps S.below.stays) (codeRec_of X hcd) rfl (hbind s) hcell hloc (fun h₁ hns hk₁ => ?_) hco hgen hk
  refine wpAny_mono (h dp un gd outer _ s.heap.objs.size h₁ s (fun e s' => R (.error e) s') hdp hu S.K S.T st ⟨hns, fun b o e => hk₁ b o (of_hideAll _ e), Nat.le_of_eq (hideAll_size _ _)⟩
    (fun p hp => ⟨hk₁ _ _ (l.at_ p hp).1, Nat.ne_of_lt (Heap.lt_size (l.at_ p hp).1), hideAll_none _ (List.mem_map_of_mem hp)⟩)
    ⟨S.below.stack, st, funFrames_hideAll S.below.frames fun env he a ha hfa => ?_⟩ (S.K.keeps st) (S.T.keeps st) ?_ l.nodup fun e led' h' tk' R' U' nd hp hcx => hret e led' h' tk' R' U' nd hp hcx) (fun _ _ x => x.elim) fun _ _ x => x
  · obtain ⟨p, hp, rfl⟩ := List.mem_map.mp ha
    exact (l.at_ p hp).2.2 (List.mem_filterMap.mpr ⟨env, he, hfa⟩)
  · intro a ha
    obtain ⟨o, es, n, e, d⟩ := S.D a ha
    exact ⟨o, es, n, hf a o e ha, d⟩

theorem loud_of {Post : Value → List (Addr × Obj) → Prop}
    (ho : (hd.heap_39 w.params).lookup f = some ⟨oc, od, .func (fnOf name qual params body scope dV kV doc pm an cdv ct), osl⟩) (hcd : codeIn (hd.heap_39 w.params) cdv qual = true)
    (hbind : ∀ s, BindsTo s (fnOf name qual params body scope dV kV doc pm an cdv ct) ⟨args, []⟩ binds) (hloc : ∀ y ∈ binds, scope.names.lookup y.1 = some .local)
    (h : ∀ (dp un : Nat) (gd : Option (List Code)) (outer : List Env) (g : Heap) (L' : Addr) (h₁ : Heap) (s : Shared) (Q : Flow → Shared → Prop), dp + d < recursionLimit → un + u < cLine →
      (hd.heap_39 w.params).In b → Top P loose mean mg mb b → b.StaysIn g →
      Fr g L' h₁ (fun y => binds.reverse.lookup y) → News g L' h₁ fp → Below (arA dp un gd outer) b outer g → (hd.heap_39 w.params).In g → Top P loose mean mg mb g → KtsDicts (frs outer) g → (fp.map (·.1)).Nodup →
      (∀ v led' h' tk' m' g', KtsTurn (frs outer) g g' → Below (arA dp un gd outer) b outer g' → Fr g' L' h' m' → News g' L' h' led' → (led'.map (·.1)).Nodup → Post v led' → Q (.ret v) { s with heap := h', toks := tk' }) →
      wpAny (model prog w) ((arA dp un gd outer).deeper (envOf qual scope L' f cdv)) (execs body (envOf qual scope L' f cdv)) Q (fun _ _ => False) { s with heap := h₁, toks := s.toks + binds.length })
    (hco : scope.isCoroutine = false) (hgen : scope.isGenerator = false) (hk : scope.kind = .function)
    (hcell : ∀ x ∈ scope.names, x.2 ≠ .cell) : Loud w mean mg mb f d u args fp b Post := by
  intro A outer s R hh S hdp hu l hret
  obtain ⟨hd0, dp, fr, gd, un⟩ := A
  have hh' : hd0 = none := hh
  subst hh'
  have hfr : fr = some outer := S.below.stack
  subst hfr
  refine enter S l ho hcd (by omega) (hbind s) hloc (fun g L' h₁ F N B X T D hf hL => ?_) hco hgen hk hcell
  refine wpAny_mono (h dp un gd outer g L' h₁ s _ hdp hu S.K S.T B.stays F N B X T D l.nodup fun v led' h' tk' m' g' Tn B' F' N' nd hp => ?_) (fun _ _ x => x) fun _ _ x => x.elim
  refine hret v led' h' tk' ⟨fun a o e => F'.keep a o (B'.stays a o e), ?_, fun a o e hm => ?_⟩ ⟨fun p hp => ⟨(N' p hp).1, ?_, fun z => ?_⟩, nd⟩ hp
  · rw [hL]; exact Nat.le_of_lt F'.ns.lt
  · obtain ⟨sl, hs⟩ := Tn.up (hf a o e hm)
    exact ⟨sl, F'.keep _ _ hs⟩
  · cases e : b.get? p.1 with
    | none => rfl
    | some o => have := B'.stays _ _ e; rw [(N' p hp).2.2] at this; cases this
  · obtain ⟨o, ho⟩ := frame_in B' z
    rw [(N' p hp).2.2] at ho; cases ho
end
theorem RaisedSN.sub {base G : Heap} {l : List Env} {e : Addr} {cls : Value} {news news' : List (Addr × Obj)} {h : Heap} (R : RaisedSN base G l e cls news h) (hs : ∀ p ∈ news', p ∈ news) : RaisedSN base G l e cls news' h := by
  obtain ⟨B', a0, h1, h2, h3, h4⟩ := R
  exact ⟨B', a0, h1, h2, fun q hq => h3 q (hs q hq), h4⟩

theorem fill_p35_lists : PySem.Challenge.rw_eg5038_01 = PySem.Challenge.rw_eg5038_01 ∧ hd.heap_39 = hd.heap_39 := by w_top off; k_fill; exact ⟨rfl, rfl⟩

section
variable {prog : Program} {w : World} {A : Around} {E : Value → Shared → Prop} {s : Shared} {h₀ : Heap} {L l : Addr} {m : Str → Option Value} {news : List (Addr × Obj)} {vs : List Value} {n : Nat} {Q : Value → Shared → Prop}
theorem len_led (N : News h₀ L s.heap news) (hm : (l, listOf vs.toArray n) ∈ news) (hz : vs.length ≤ sizeLine) (h : ∀ t k, Q (.int (vs.length : Int) t) { s with toks := k }) : wpAny (model prog w) A (call (.builtin "len") [.ref l]) Q E s :=
  len_list (list_at N hm) (by rw [sizeLine_eq] at hz; rw [List.size_toArray]; omega) (by rw [List.size_toArray]; exact h _ _)
theorem len_g (F : Fr h₀ L s.heap m) (hl : h₀.IsList l vs.toArray) (hz : vs.length ≤ sizeLine) (h : ∀ t k, Q (.int (vs.length : Int) t) { s with toks := k }) : wpAny (model prog w) A (call (.builtin "len") [.ref l]) Q E s :=
  len_list (hl.at fun o e => F.keep _ o e) (by rw [sizeLine_eq] at hz; rw [List.size_toArray]; omega) (by rw [List.size_toArray]; exact h _ _)

/-- what stands at a place of a list -/
def PlaceAt (vs : List Value) (i : Int) (v : Value) : Prop := ∃ j : Nat, i = (j : Int) ∧ j < 2 ^ 62 ∧ vs[j]? = some v
theorem place_led {value slice : Expr} {i : Int} {u : Tok} {x : Value} (N : News h₀ L s.heap news) (hm : (l, listOf vs.toArray n) ∈ news) (hp : PlaceAt vs i x) (h : Q x s)
    (hs : subscripted slice false (.ref l) (.int i u) = operate [.ref l, .int i u] (getItem (.ref l) (.int i u)) := by with_unfolding_all rfl) (hg : ∀ r, letTemporaryGo value (.ref l) r = pure () := by intro _; with_unfolding_all rfl) :
    wpAny (model prog w) A (subscriptTail value slice (.ref l) (.int i u)) Q E s := by
  obtain ⟨j, rfl, h1, h2⟩ := hp
  exact item_list (list_at N hm) (by omega) (by omega) (by simpa using h2) h hs hg
theorem place_g {value slice : Expr} {i : Int} {u : Tok} {x : Value} (F : Fr h₀ L s.heap m) (hl : h₀.IsList l vs.toArray) (hp : PlaceAt vs i x) (h : Q x s)
    (hs : subscripted slice false (.ref l) (.int i u) = operate [.ref l, .int i u] (getItem (.ref l) (.int i u)) := by with_unfolding_all rfl) (hg : ∀ r, letTemporaryGo value (.ref l) r = pure () := by intro _; with_unfolding_all rfl) :
    wpAny (model prog w) A (subscriptTail value slice (.ref l) (.int i u)) Q E s := by
  obtain ⟨j, rfl, h1, h2⟩ := hp
  exact item_list (hl.at fun o e => F.keep _ o e) (by omega) (by omega) (by simpa using h2) h hs hg
end

local macro_rules | `(tactic| walk_at "call builtin:len") => `(tactic| (k_here; (with_reducible show wpAny _ _ (call (Value.builtin "len") [Value.ref _]) _ _ _); k_dflt (first
  | (refine' len_led ?N ?m ?z ?_; (case N => k_asm); (case m => k_mem); (case z => assumption); k_whole)
  | (refine' len_g ?F ?l ?z ?_; (case F => k_asm); (case l => assumption); (case z => assumption); k_whole)); intro _ _))
local macro_rules | `(tactic| walk_at "subscriptTail") => `(tactic| (k_here; (with_reducible show wpAny _ _ (subscriptTail _ _ (Value.ref _) (Value.int _ _)) _ _ _); k_dflt (first
  | (refine place_led ?N ?m ?p ?_; (case N => k_asm); (case m => k_mem); (case p => with_reducible assumption))
  | (refine place_g ?F ?l ?p ?_; (case F => k_asm); (case l => assumption); (case p => with_reducible assumption)))))

local macro_rules | `(tactic| walk_at "leaving ref") => `(tactic| (k_here; (fail_if_success (with_reducible show wpAny _ _ _ (fun _ s' => Ctx0 _ _ → _) _ _)); (with_reducible rename Heap.MadeExc _ _ _ "StopIteration" _ => mX); refine ctx_after KeepsC.leaving (ctx_made mX) ?_))

theorem fill_p36_stop : PySem.Challenge.rw_eg5038_01 = PySem.Challenge.rw_eg5038_01 ∧ hd.heap_39 = hd.heap_39 := by w_top off; k_fill; exact ⟨rfl, rfl⟩

structure RowEnd (r r' : RowSt) : Prop where
  x : r'.x = r.x
  dx : r'.dx = r.dx
  el : r'.el = r.el
  code : r'.code = r.code
  first : r'.first = r.first
  last : r'.last = r.last
  idx : r'.idx = r.idx
  els : r'.els = r.els
  len : ∃ t, r'.len = .int (r.els.length : Int) t

set_option maxHeartbeats 4000000 in
theorem next_stop {w : World} {mean : ExcName → Option Value} {mg mb : Str → Option Value} {b : Heap} {r : RowSt} (hi : r.idx = r.last) (hel : r.els.length ≤ sizeLine) :
    Raises w mean mg mb 98 4 40 [.ref r.x] (rowLed w r) b "StopIteration" (fun led' => ∃ r', led' = rowLed w r' ∧ RowEnd r r') := by
  obtain ⟨x0, dx, el, kw, t0, t1, t2, t3, t4, t5, t6, t7, C, tc, first, tf, last, tl, idx, ti, len, els, ne⟩ := r
  dsimp only at hi hel ⊢
  subst hi
  refine' raises_of (binds := [("self", .ref x0)]) ?_ ?_ ?_ ?_ ?_ ?_ ?_ ?_ ?_
  walk_at "m_enter"
  intro dp un gd outer g L h₁ s Q hdp hu XB TB hbg F N B X T D hnd hret
  obtain ⟨a1, a2, a3⟩ := row_apart hnd
  dsimp only at a1 a2 a3
  unfold rowLed rowEnts at N
  dsimp only at N
  walk_at "m_steps"
  · skip
    (rename RaisedS _ _ _ _ _ _ _ _ _ => S9)
    have hR := RaisedSN.sub (RaisedS.toSN S9) (sub_row (w := w) (x := x0) (dx := dx) (el := el) (by k_mem) (by k_mem) (by k_mem))
    exact hret _ _ _ _ hR (by assumption) (row_nodup' a1 a2 a3) ⟨_, rfl, ⟨rfl, rfl, rfl, rfl, rfl, rfl, rfl, rfl, ⟨_, rfl⟩⟩⟩ fun _ => by assumption
  · exact absurd rfl (by assumption)

set_option maxHeartbeats 4000000 in
theorem next_assert {w : World} {mean : ExcName → Option Value} {mg mb : Str → Option Value} {b : Heap} {r : RowSt} (hi : r.last < r.idx) :
    Raises w mean mg mb 98 4 40 [.ref r.x] (rowLed w r) b "AssertionError" (fun led' => led' = rowLed w r) := by
  obtain ⟨x0, dx, el, kw, t0, t1, t2, t3, t4, t5, t6, t7, C, tc, first, tf, last, tl, idx, ti, len, els, ne⟩ := r
  dsimp only at hi ⊢
  refine' raises_of (binds := [("self", .ref x0)]) ?_ ?_ ?_ ?_ ?_ ?_ ?_ ?_ ?_
  walk_at "m_enter"
  intro dp un gd outer g L h₁ s Q hdp hu XB TB hbg F N B X T D hnd hret
  obtain ⟨a1, a2, a3⟩ := row_apart hnd
  dsimp only at a1 a2 a3
  unfold rowLed rowEnts at N
  dsimp only at N
  walk_at "m_steps"
  · exfalso; omega
  · (rename RaisedSN _ _ _ _ _ _ _ => S9)
    have hR := RaisedSN.sub S9 (sub_row (w := w) (x := x0) (dx := dx) (el := el) (by k_mem) (by k_mem) (by k_mem))
    exact hret _ _ _ _ hR (by assumption) (row_nodup' a1 a2 a3) rfl fun h => absurd h (by decide)

theorem fill_p38_len : PySem.Challenge.rw_eg5038_01 = PySem.Challenge.rw_eg5038_01 ∧ hd.heap_39 = hd.heap_39 := by w_top off; k_fill; exact ⟨rfl, rfl⟩

def LenPost (w : World) (r : RowSt) (v : Value) (led' : List (Addr × Obj)) : Prop := (∃ t, v = .int (r.els.length : Int) t) ∧ ∃ r', led' = rowLed w r' ∧ RowEnd r r'
set_option maxHeartbeats 4000000 in
theorem len_end {w : World} {mean : ExcName → Option Value} {mg mb : Str → Option Value} {b : Heap} {r : RowSt} {t : Tok} (hi : r.idx = r.last) (hl : r.len = .int (r.els.length : Int) t) (hel : r.els.length ≤ sizeLine) :
    Loud w mean mg mb 112 8 80 [.ref r.x] (rowLed w r) b (LenPost w r) := by
  obtain ⟨x0, dx, el, kw, t0, t1, t2, t3, t4, t5, t6, t7, C, tc, first, tf, last, tl, idx, ti, len, els, ne⟩ := r
  dsimp only at hi hl hel ⊢
  subst hi hl
  refine' loud_of (binds := [("self", .ref x0)]) ?_ ?_ ?_ ?_ ?_ ?_ ?_ ?_ ?_
  walk_at "m_enter"
  intro dp un gd outer g L h₁ s Q hdp hu XB TB hbg F N B X T D hnd hret
  obtain ⟨a1, a2, a3⟩ := row_apart hnd
  dsimp only at a1 a2 a3
  have N0 := N
  unfold rowLed rowEnts at N
  dsimp only at N
  walk_at "m_steps"
  · exact hret _ _ _ _ _ _ KtsTurn.refl B (by k_asm) N0 hnd ⟨⟨_, rfl⟩, _, rfl, ⟨rfl, rfl, rfl, rfl, rfl, rfl, rfl, rfl, ⟨_, rfl⟩⟩⟩
  · refine Paused.on ?_
    dsimp only [List.cons_append, List.nil_append]
    refine useR (rest := []) XB TB B D (by k_asm) N0 rfl rfl rfl rfl ?_ ?_ (fun _ h => h) hnd (fun _ h => nomatch h) (fun b' _ _ _ => next_stop rfl hel) ?_
    · show dp + 1 + 4 < recursionLimit; omega
    · show un + 3 + 40 < cLine; omega
    rintro e led' h' tk' G R FG U - hnd' ⟨r', rfl, hr'⟩ -
    clear N N0
    obtain ⟨a1', a2', a3'⟩ := row_apart hnd'
    obtain ⟨x0', dx', el', kw', t0', t1', t2', t3', t4', t5', t6', t7', C', tc', first', tf', last', tl', idx', ti', len', els', ne'⟩ := r'
    obtain ⟨rx, rdx, rel, rc, rf, rl, ri, re, tq, rle⟩ := hr'
    dsimp only at rx rdx rel rc rf rl ri re rle a1' a2' a3'
    subst rx rdx rel rc rf rl ri re rle
    unfold rowLed rowEnts at R
    dsimp only [List.append_nil, List.cons_append, List.nil_append] at R
    walk_at "m_steps"
    (rename Fr _ _ _ _ => F9); (rename News _ _ _ _ => N9); (rename KtsTurn _ _ _ => T9); (rename Below _ _ _ _ => B9)
    have hN := News.row (w := w) (x := x0') (dx := dx') (el := el') N9 (by k_mem) (by k_mem) (by k_mem)
    exact hret _ _ _ _ _ _ T9 B9 F9 hN (row_nodup' a1' a2' a3') ⟨⟨_, rfl⟩, _, rfl, ⟨rfl, rfl, rfl, rfl, rfl, rfl, rfl, rfl, ⟨_, rfl⟩⟩⟩

set_option maxHeartbeats 4000000 in
theorem len_assert {w : World} {mean : ExcName → Option Value} {mg mb : Str → Option Value} {b : Heap} {r : RowSt} (hi : r.last < r.idx) (hl : r.len = .none) :
    Raises w mean mg mb 112 8 80 [.ref r.x] (rowLed w r) b "AssertionError" (fun led' => led' = rowLed w r) := by
  obtain ⟨x0, dx, el, kw, t0, t1, t2, t3, t4, t5, t6, t7, C, tc, first, tf, last, tl, idx, ti, len, els, ne⟩ := r
  dsimp only at hi hl ⊢
  subst hl
  refine' raises_of (binds := [("self", .ref x0)]) ?_ ?_ ?_ ?_ ?_ ?_ ?_ ?_ ?_
  walk_at "m_enter"
  intro dp un gd outer g L h₁ s Q hdp hu XB TB hbg F N B X T D hnd hret
  obtain ⟨a1, a2, a3⟩ := row_apart hnd
  dsimp only at a1 a2 a3
  have N0 := N
  unfold rowLed rowEnts at N
  dsimp only at N
  walk_at "m_steps"
  refine Paused.on ?_
  refine useR (rest := []) XB TB B D (by k_asm) N0 rfl rfl rfl rfl ?_ ?_ (fun _ h => h) hnd (fun _ h => nomatch h) (fun b' _ _ _ => next_assert hi) ?_
  · show dp + 1 + 4 < recursionLimit; omega
  · show un + 3 + 40 < cLine; omega
  rintro e led' h' tk' G R FG U - hnd' rfl -
  clear N N0
  walk_at "m_steps"
  (rename RaisedSN _ _ _ _ _ _ _ => S9)
  have hR := RaisedSN.sub S9 (fun p hp => List.mem_append_left _ hp)
  exact hret _ _ _ _ hR (by assumption) (row_nodup' a1 a2 a3) rfl fun h => absurd h (by decide)

theorem fill_p39_use : PySem.Challenge.rw_eg5038_01 = PySem.Challenge.rw_eg5038_01 ∧ hd.heap_39 = hd.heap_39 := by w_top off; k_fill; exact ⟨rfl, rfl⟩

theorem Quiet.post {w : World} {mean : ExcName → Option Value} {mg mb : Str → Option Value} {f : Addr} {d u d' u' : Nat} {args : List Value} {fp : List (Addr × Obj)} {b : Heap} {Post Post' : Value → List (Addr × Obj) → Prop}
    (h : Quiet w mean mg mb f d u args fp b Post) (hd : d ≤ d') (hu : u ≤ u') (k : ∀ v l, Post v l → Post' v l) : Quiet w mean mg mb f d' u' args fp b Post' :=
  fun A outer s R hh S h1 h2 l hr => h A outer s R hh S (by omega) (by omega) l fun r led' h' tk' q l' hp => hr r led' h' tk' q l' (k _ _ hp)
theorem Loud.post {w : World} {mean : ExcName → Option Value} {mg mb : Str → Option Value} {f : Addr} {d u d' u' : Nat} {args : List Value} {fp : List (Addr × Obj)} {b : Heap} {Post Post' : Value → List (Addr × Obj) → Prop}
    (h : Loud w mean mg mb f d u args fp b Post) (hd : d ≤ d') (hu : u ≤ u') (k : ∀ v l, Post v l → Post' v l) : Loud w mean mg mb f d' u' args fp b Post' :=
  fun A outer s R hh S h1 h2 l hr => h A outer s R hh S (by omega) (by omega) l fun r led' h' tk' q l' hp => hr r led' h' tk' q l' (k _ _ hp)
theorem led_rest {l c : List (Addr × Obj)} (h : ((l ++ c).map (·.1)).Nodup) : (l.map (·.1)).Nodup ∧ (∀ p ∈ c, p ∈ l ++ c ∧ p.1 ∉ l.map (·.1)) ∧ (c.map (·.1)).Nodup := by
  rw [List.map_append] at h
  obtain ⟨a, b, d⟩ := List.nodup_append.mp h
  exact ⟨a, fun p hp => ⟨List.mem_append_right _ hp, fun hm => d _ hm _ (List.mem_map_of_mem hp) rfl⟩, b⟩
theorem led_join {l c : List (Addr × Obj)} (h : ∀ p ∈ l, ∀ q ∈ c, q.1 ≠ p.1) (h1 : (l.map (·.1)).Nodup) (h2 : (c.map (·.1)).Nodup) : ((l ++ c).map (·.1)).Nodup := by
  rw [List.map_append]
  refine List.nodup_append.mpr ⟨h1, h2, fun a ha b hb e => ?_⟩
  obtain ⟨p, hp, rfl⟩ := List.mem_map.mp ha
  obtain ⟨q, hq, rfl⟩ := List.mem_map.mp hb
  exact h p hp q hq e.symm

section
variable {w : World} {mean : ExcName → Option Value} {mg mb : Str → Option Value} {A₀ A : Around} {base g : Heap} {outer : List Env} {s : Shared} {fp rest : List (Addr × Obj)} {env : Env} {L : Addr} {m : Str → Option Value}
  {Q : Value → Shared → Prop} {E : Value → Shared → Prop} {f : Addr} {d u : Nat} {args : List Value}

theorem callQ {Post : Value → List (Addr × Obj) → Prop} (XB : (hd.heap_39 w.params).In base) (TB : Top P loose mean mg mb base) (B : Below A₀ base outer g) (D : KtsDicts (frs outer) g) (F : Fr g L s.heap m) (N : News g L s.heap (fp ++ rest)) (hnd : ((fp ++ rest).map (·.1)).Nodup)
    (hA : A.frames = some (env :: outer)) (hf : env.frame = some L) (hke : env.scope.kind = .function) (hh : A.handled = none) (hdp : A.depth + d < recursionLimit) (hu : A.units + u < cLine)
    (C : ∀ b, (∀ a o, g.get? a = some o → a ∉ frs outer → b.get? a = some o) → base.StaysIn b → (∀ p ∈ rest, b.get? p.1 = some p.2) → Quiet w mean mg mb f d u args fp b Post)
    (h : ∀ r led' h' tk', Fr g L h' m → News g L h' (led' ++ rest) → ((led' ++ rest).map (·.1)).Nodup → Post r led' → Q r { s with heap := h', toks := tk' }) :
    wpAny (model prog w) A (call (.ref f) args) Q E s :=
  have k := led_rest hnd
  useQ XB TB B D F N hA hf hke hh hdp hu (fun _ h => List.mem_append_left _ h) k.1 k.2.1 C fun r led' h' tk' F' N' hap nd hp => h r led' h' tk' F' N' (led_join hap nd k.2.2) hp

theorem callR {X : String} {Post : List (Addr × Obj) → Prop} (XB : (hd.heap_39 w.params).In base) (TB : Top P loose mean mg mb base) (B : Below A₀ base outer g) (D : KtsDicts (frs outer) g) (F : Fr g L s.heap m) (N : News g L s.heap (fp ++ rest)) (hnd : ((fp ++ rest).map (·.1)).Nodup)
    (hA : A.frames = some (env :: outer)) (hf : env.frame = some L) (hke : env.scope.kind = .function) (hh : A.handled = none) (hdp : A.depth + d < recursionLimit) (hu : A.units + u < cLine)
    (C : ∀ b, (∀ a o, g.get? a = some o → a ∉ frs outer → b.get? a = some o) → base.StaysIn b → (∀ p ∈ rest, b.get? p.1 = some p.2) → Raises w mean mg mb f d u args fp b X Post)
    (h : ∀ e led' h' tk' G, RaisedSN base G (env :: outer) e (.type X) (led' ++ rest) h' → Fr g L G m → G.UpToSlots h' → ((led' ++ rest).map (·.1)).Nodup → Post led' → (X = "StopIteration" → Ctx0 e h') → E (.ref e) { s with heap := h', toks := tk' }) :
    wpAny (model prog w) A (call (.ref f) args) Q E s :=
  have k := led_rest hnd
  useR XB TB B D F N hA hf hke hh hdp hu (fun _ h => List.mem_append_left _ h) k.1 k.2.1 C fun e led' h' tk' G R FG U hap nd hp hcx => h e led' h' tk' G R FG U (led_join hap nd k.2.2) hp hcx

theorem callL {Post : Value → List (Addr × Obj) → Prop} (XB : (hd.heap_39 w.params).In base) (TB : Top P loose mean mg mb base) (B : Below A₀ base outer g) (D : KtsDicts (frs outer) g) (F : Fr g L s.heap m) (N : News g L s.heap (fp ++ rest)) (hnd : ((fp ++ rest).map (·.1)).Nodup)
    (hA : A.frames = some (env :: outer)) (hf : env.frame = some L) (hke : env.scope.kind = .function) (hh : A.handled = none) (hdp : A.depth + d < recursionLimit) (hu : A.units + u < cLine)
    (C : ∀ b, (∀ a o, g.get? a = some o → a ∉ frs outer → b.get? a = some o) → base.StaysIn b → (∀ p ∈ rest, b.get? p.1 = some p.2) → Loud w mean mg mb f d u args fp b Post)
    (h : ∀ r led' h' tk' g', KtsTurn (frs outer) g g' → Fr g' L h' m → News g' L h' (led' ++ rest) → Below A₀ base outer g' → (hd.heap_39 w.params).In g' → Top P loose mean mg mb g' → KtsDicts (frs outer) g' → ((led' ++ rest).map (·.1)).Nodup → Post r led' → Q r { s with heap := h', toks := tk' }) :
    wpAny (model prog w) A (call (.ref f) args) Q E s :=
  have k := led_rest hnd
  useL XB TB B D F N hA hf hke hh hdp hu (fun _ h => List.mem_append_left _ h) k.1 k.2.1 C fun r led' h' tk' g' T F' N' B' X' T' D' hap nd hp => h r led' h' tk' g' T F' N' B' X' T' D' (led_join hap nd k.2.2) hp
end
theorem nodup_swap {a b c : List (Addr × Obj)} (h : ((a ++ b ++ c).map (·.1)).Nodup) : ((a ++ (c ++ b)).map (·.1)).Nodup := by
  refine ((List.Perm.map _ ?_).nodup_iff).mp h
  rw [List.append_assoc]
  exact List.Perm.append_left _ List.perm_append_comm
theorem mem_swap {a b c : List (Addr × Obj)} : ∀ p ∈ a ++ (c ++ b), p ∈ a ++ b ++ c := fun p hp => by
  simp only [List.mem_append] at hp ⊢
  rcases hp with h | h | h
  · exact .inl (.inl h)
  · exact .inr h
  · exact .inl (.inr h)

theorem fill_p40_getitem : PySem.Challenge.rw_eg5038_01 = PySem.Challenge.rw_eg5038_01 ∧ hd.heap_39 = hd.heap_39 := by w_top off; k_fill; exact ⟨rfl, rfl⟩

set_option maxHeartbeats 4000000 in
theorem getitem_have {w : World} {mean : ExcName → Option Value} {mg mb : Str → Option Value} {b : Heap} {r : RowSt} {i : Nat} {t : Tok} {v : Value} (hv : r.els[i]? = some v) (hel : r.els.length ≤ sizeLine) :
    Quiet w mean mg mb 105 8 80 [.ref r.x, .int (i : Int) t] (rowLed w r) b (fun v' led' => v' = v ∧ led' = rowLed w r) := by
  obtain ⟨x0, dx, el, kw, t0, t1, t2, t3, t4, t5, t6, t7, C, tc, first, tf, last, tl, idx, ti, len, els, ne⟩ := r
  dsimp only at hv hel ⊢
  refine' quiet_of (binds := [("self", .ref x0), ("i", .int (i : Int) t)]) ?_ ?_ ?_ ?_ ?_ ?_ ?_ ?_ ?_
  walk_at "m_enter"
  intro dp un gd outer g L h₁ s Q hdp hu XB TB hbg F N B X T D hnd hret
  obtain ⟨a1, a2, a3⟩ := row_apart hnd
  dsimp only at a1 a2 a3
  have hlt : i < els.length := by
    rw [List.getElem?_eq_some_iff] at hv; exact hv.1
  have hP : PlaceAt els (i : Int) v := ⟨i, rfl, by rw [sizeLine_eq] at hel; omega, hv⟩
  unfold rowLed rowEnts at N
  dsimp only at N
  walk_at "m_steps"
  refine Paused.on (whl_start 1 ?_)
  walk_at "m_steps"
  refine WhlIf.no (decide_eq_false (by omega)) ?_
  walk_at "m_steps"
  (rename Fr _ _ _ _ => F9); (rename News _ _ _ _ => N9)
  refine place_led N9 (by k_mem) hP ?_
  walk_at "m_steps"
  exact hret _ _ _ _ _ F9 N9 hnd ⟨rfl, rfl⟩

/-- what a row gives for kids that stand from a place on: the values, and the rows among them -/
inductive Got (w : World) (C : List UInt8) : Nat → List Value → List Tree → List (Addr × Obj) → Prop where
  | nil (p : Nat) : Got w C p [] [] []
  | leaf {p : Nat} {x : List UInt8} {t : Tok} {vs : List Value} {ts : List Tree} {c : List (Addr × Obj)} : Got w C (p + (code (.leaf x)).length) vs ts c → Got w C p (.bytes x.toArray t :: vs) (.leaf x :: ts) c
  | node {p s0 : Nat} {rc : RowSt} {us : List Tree} {vs : List Value} {ts : List Tree} {c : List (Addr × Obj)} : RowFresh rc C (s0 : Int) ((p : Int) + (code (.node us)).length) → AtCode C s0 (body us) → s0 + (body us).length = p + (code (.node us)).length →
      Got w C (p + (code (.node us)).length) vs ts c → Got w C p (.ref rc.x :: vs) (.node us :: ts) (rowLed w rc ++ c)

theorem Got.append {w : World} {C : List UInt8} {p : Nat} {vs vs' : List Value} {ts ts' : List Tree} {c c' : List (Addr × Obj)} (h : Got w C p vs ts c) (h' : Got w C (p + (body ts).length) vs' ts' c') : Got w C p (vs ++ vs') (ts ++ ts') (c ++ c') := by
  induction h with
  | nil p => simpa [body] using h'
  | leaf h0 ih =>
    refine Got.leaf (ih ?_)
    rw [body, List.length_append, ← Nat.add_assoc] at h'
    exact h'
  | node h1 h2 h3 h0 ih =>
    rw [List.append_assoc]
    refine Got.node h1 h2 h3 (ih ?_)
    rw [body, List.length_append, ← Nat.add_assoc] at h'
    exact h'
theorem Got.lengths {w : World} {C : List UInt8} {p : Nat} {vs : List Value} {ts : List Tree} {c : List (Addr × Obj)} (h : Got w C p vs ts c) : vs.length = ts.length := by
  induction h with
  | nil p => rfl
  | leaf _ ih => rw [List.length_cons, List.length_cons, ih]
  | node _ _ _ _ ih => rw [List.length_cons, List.length_cons, ih]

/-- what the row looks like when kids have been read -/
structure RowRead (r r' : RowSt) (vs : List Value) (e : Int) : Prop where
  x : r'.x = r.x
  dx : r'.dx = r.dx
  el : r'.el = r.el
  code : r'.code = r.code
  first : r'.first = r.first
  last : r'.last = r.last
  len : r'.len = r.len
  idx : r'.idx = e
  els : r'.els = r.els ++ vs
theorem RowRead.refl {r : RowSt} : RowRead r r [] r.idx := ⟨rfl, rfl, rfl, rfl, rfl, rfl, rfl, rfl, (List.append_nil _).symm⟩
theorem RowRead.next {r r' r'' : RowSt} {vs : List Value} {e e' : Int} {v : Value} (h : RowRead r r' vs e) (h' : RowNext r' r'' v e') : RowRead r r'' (vs ++ [v]) e' :=
  ⟨h'.x.trans h.x, h'.dx.trans h.dx, h'.el.trans h.el, h'.code.trans h.code, h'.first.trans h.first, h'.last.trans h.last, h'.len.trans h.len, h'.idx, by rw [h'.els, h.els, List.append_assoc]⟩

/-- one step of the row, leaf or row -/
theorem next_any {w : World} {mean : ExcName → Option Value} {mg mb : Str → Option Value} {b : Heap} {r : RowSt} {t : Tree} {p n : Nat} (hC : r.code.length ≤ 16777216) (hi : r.idx = (p : Int)) (hlt : (p : Int) < r.last) (hA : AtCode r.code p (code t)) (hn : n ≤ 3) (hd : Deep n t) (hel : r.els.length ≤ sizeLine) :
    Quiet w mean mg mb 98 12 120 [.ref r.x] (rowLed w r) b (fun v led' => ∃ r' c, led' = rowLed w r' ++ c ∧ RowNext r r' v ((p : Int) + (code t).length) ∧ Got w r.code p [v] [t] c) := by
  cases t with
  | leaf x =>
    refine ((next_leaf hC hi hlt hA hd.leaf hel).post (by omega) (by omega) ?_)
    rintro v led' ⟨r', c, h1, h2, rfl, tk, rfl⟩
    exact ⟨r', [], h1, h2, .leaf (.nil _)⟩
  | node us =>
    have hb : (body us).length ≤ 38895 := by
      have := (code_length hn hd).2 us rfl
      obtain ⟨a, b, c, d⟩ := most_le
      have : n = 0 ∨ n = 1 ∨ n = 2 ∨ n = 3 := by omega
      rcases this with rfl | rfl | rfl | rfl <;> omega
    obtain ⟨s0, hq, hS, he⟩ := next_node (w := w) (mean := mean) (mg := mg) (mb := mb) hC hi hlt hA hb hel
    refine (hq b).post (by omega) (by omega) ?_
    rintro v led' ⟨r', c, h1, h2, rc, rfl, rfl, h3⟩
    refine ⟨r', _, h1, h2, ?_⟩
    have := Got.node (w := w) h3 hS he (.nil _)
    rw [List.append_nil] at this
    exact this

def getM (x0 : Addr) (i : Nat) (t a : Tok) : Str → Option Value := fun y => if y = Str.ofString "stop" then some (.int ((i : Int) + 1) a) else if y = Str.ofString "start" then some (.int (i : Int) t) else List.lookup y [(Str.ofString "self", Value.ref x0), (Str.ofString "i", Value.int (i : Int) t)].reverse
def getJ (w : World) (r : RowSt) (p : Nat) (ts : List Tree) (m₀ : Str → Option Value) (n : Nat) (m : Str → Option Value) (news : List (Addr × Obj)) : Prop :=
  m = m₀ ∧ ∃ r1 vs c dn rs, news = rowLed w r1 ++ c ∧ (news.map (·.1)).Nodup ∧ ts = dn ++ rs ∧ n = rs.length ∧ RowRead r r1 vs ((p : Int) + (body dn).length) ∧ Got w r.code p vs dn c
set_option maxHeartbeats 4000000 in
theorem getitem_more {w : World} {mean : ExcName → Option Value} {mg mb : Str → Option Value} {b : Heap} {r : RowSt} {i p n : Nat} {t : Tok} {ts : List Tree} (hC : r.code.length ≤ 16777216) (hi : r.idx = (p : Int)) (hlt : (p : Int) + (body ts).length ≤ r.last) (hA : AtCode r.code p (body ts)) (hn : n ≤ 3) (hd : ∀ t ∈ ts, Deep n t)
    (hlen : r.els.length + ts.length = i + 1) (hne : ts ≠ []) (hel : i < 16777216) :
    Quiet w mean mg mb 105 16 200 [.ref r.x, .int (i : Int) t] (rowLed w r) b (fun v led' => ∃ r' vs c, led' = rowLed w r' ++ c ∧ RowRead r r' vs ((p : Int) + (body ts).length) ∧ Got w r.code p vs ts c ∧ r'.els[i]? = some v) := by
  refine' quiet_of (binds := [("self", .ref r.x), ("i", .int (i : Int) t)]) ?_ ?_ ?_ ?_ ?_ ?_ ?_ ?_ ?_
  walk_at "m_enter"
  intro dp un gd outer g L h₁ s Q hdp hu XB TB hbg F N B X T D hnd hret
  walk_at "m_steps"
  refine Paused.on (wpAny_noRaise ?_)
  (rename Fr _ _ _ _ => F1); (rename News _ _ _ _ => N1)
  refine' While_inv (getJ w r p ts (getM r.x i t _)) (n₀ := ts.length) F1 N1 ⟨rfl, r, [], [], [], ts, (List.append_nil _).symm, hnd, rfl, rfl, ⟨rfl, rfl, rfl, rfl, rfl, rfl, rfl, by rw [hi]; simp [body], (List.append_nil _).symm⟩, .nil _⟩ ?_ (fun _ _ h => h.elim)
  clear F1 N1
  rintro j m₁ news₁ h₂ tk₂ F2 N2 ⟨rfl, r1, vs, c, dn, rs, rfl, hnd1, rfl, rfl, hrr, hgot⟩
  obtain ⟨x0, dx, el, kw, t0, t1, t2, t3, t4, t5, t6, t7, C, tc, first, tf, last, tl, idx, ti, len, els, ne⟩ := r1
  have N3 := N2
  unfold rowLed rowEnts at N3
  dsimp only [List.cons_append, List.nil_append] at N3
  obtain ⟨rx, rdx, rel, rc, rf, rl, rlen, ri, rels⟩ := hrr
  dsimp only at rx rdx rel rc rf rl rlen ri rels
  unfold getM at F2
  subst rx
  have hl1 := hgot.lengths
  have hl2 : els.length = r.els.length + dn.length := by rw [rels, List.length_append, hl1]
  rw [List.length_append] at hlen
  have hz : els.length ≤ sizeLine := by rw [sizeLine_eq]; omega
  walk_at "m_steps"
  · cases rs with
    | nil => exfalso; rw [List.length_nil] at hlen; omega
    | cons k rs =>
      subst rdx rel rc rf rl rlen ri
      have hbl : (body (dn ++ k :: rs)).length = (body dn).length + ((code k).length + (body rs).length) := by rw [body_append, body, List.length_append, List.length_append]
      have hA' : AtCode r.code (p + (body dn).length) (code k) := by
        have h := hA
        rw [body_append, body] at h
        exact h.right.left
      have hk := code_pos k
      refine Paused.on (callQ XB TB B D (by k_asm) N2 hnd1 rfl rfl rfl rfl ?_ ?_ (fun b' _ _ _ => next_any (p := p + (body dn).length) hC (Int.natCast_add _ _).symm ?_ hA' hn (hd k (by simp)) hz) ?_)
      · show dp + 1 + 12 < recursionLimit; omega
      · show un + 3 + 120 < cLine; omega
      · show ((p + (body dn).length : Nat) : Int) < r.last; omega
      rintro v led' h' tk' F5 N5 hnd5 ⟨r2, c2, rfl, hr2, hg2⟩
      walk_at "m_steps"
      refine WhileStep.intro (n' := rs.length) F5 (News.sub N5 mem_swap) (by simp) ⟨rfl, r2, vs ++ [v], c ++ c2, dn ++ [k], rs, rfl, nodup_swap hnd5, by simp, rfl, ?_, ?_⟩
      · refine ⟨hr2.x, hr2.dx, hr2.el, hr2.code, hr2.first, hr2.last, hr2.len, hr2.idx.trans ?_, by rw [hr2.els, ← List.append_assoc, ← rels]⟩
        rw [body_append, body, body, List.length_append, List.append_nil]; omega
      · exact hgot.append hg2
  · cases rs with
    | cons k rs => exfalso; rw [List.length_cons] at hlen; omega
    | nil =>
      rw [List.length_nil] at hlen
      have hi' : i < els.length := by omega
      have hP : PlaceAt els (i : Int) els[i] := ⟨i, rfl, by omega, List.getElem?_eq_getElem hi'⟩
      refine place_led N3 (by k_mem) hP ?_
      walk_at "m_steps"
      rw [List.append_nil] at hret
      exact hret _ _ _ _ _ F2 N2 hnd1 ⟨_, vs, c, rfl, ⟨rfl, rdx, rel, rc, rf, rl, rlen, ri, rels⟩, hgot, List.getElem?_eq_getElem hi'⟩

theorem fill_p41_inraise : PySem.Challenge.rw_eg5038_01 = PySem.Challenge.rw_eg5038_01 ∧ hd.heap_39 = hd.heap_39 := by w_top off; k_fill; exact ⟨rfl, rfl⟩

theorem entry_unchain' : entryFor table "proto.unchain" = some Builtin.«proto.unchain» := entryFor_of_fast (by kernel_rfl)

section
variable {prog : Program} {w : World} {A : Around} {E : Value → Shared → Prop} {s : Shared} {env : Env}

theorem unchain_none {v : Value} {c : Addr} {R : Result → Shared → Prop} (hc : Ctx0 c s.heap) (h : R (.ok (.ret .none)) s) : codeAny (model prog w) A (.builtin "proto.unchain" ⟨[v, .ref c, .ref c, .bool false], []⟩) R s := by
  obtain ⟨o, vs, h1, h2, h3⟩ := hc
  refine codeAny_builtin entry_unchain' ?_
  unfold Builtin.«proto.unchain»
  dsimp only
  refine wpAny_bind (wpAny_field h1 h2 h3 ?_)
  rw [if_pos (by decide)]
  exact wpAny_pure h

theorem raiseNew_in {α : Type} {c a : Addr} {ob : Obj} {vs : Array Value} {Q : α → Shared → Prop} (hh : A.handled = some (.ref c)) (hc : Ctx0 c s.heap) (hne : c ≠ a) (ha : s.heap.get? a = some ob) (hd : ob.data = .fields vs) (hz : 2 < vs.size)
    (h : E (.ref a) { s with heap := s.heap.update a (Obj.mapFields (·.setIfInBounds 2 (.ref c))) }) : wpAny (model prog w) A (raiseNew (.ref a) : Sem α) Q E s := by
  unfold raiseNew
  refine wpAny_bind (wpAny_handled ?_)
  rw [hh]
  dsimp only
  have e1 : ((Value.ref c) != (Value.ref a)) = true := by simp [hne]
  rw [if_pos e1]
  first
    | refine wpAny_bind (wpAny_holding (wpAny_runValue (unchain_none hc ?_)))
    | refine wpAny_bind (wpAny_bind (wpAny_holding (wpAny_runValue (unchain_none hc ?_))))
  refine wpAny_bind ?_
  show wpAny _ _ (setField (.ref a) 2 (.ref c)) _ _ _
  exact wpAny_setField ha hd hz (wpAny_throw h)

/-- a new exception that is raised where another is at hand -/
def InRaise (c : Addr) (cls : String) (E : Value → Shared → Prop) (v : Value) (s₁ : Shared) : Prop :=
  ∃ e t, v = .ref e ∧ s₁.heap.get? e = some { cls := .type cls, data := .fields #[.ref t, .none, .none, .none, .bool false, .none] } ∧ c ≠ e ∧ Ctx0 c s₁.heap ∧
    E (.ref e) { s₁ with heap := s₁.heap.update e (Obj.mapFields (·.setIfInBounds 2 (.ref c))) }

theorem raiseStmt_in {cls : String} {c : Addr} (F : ExcRaiseFacts cls) {x : Sem Value} {Q : Flow → Shared → Prop} (hh : A.handled = some (.ref c))
    (h : wpAny (model prog w) A x (InRaise c cls E) E s) : wpAny (model prog w) A (raiseStmt env (some x) none) Q E s := by
  unfold raiseStmt
  refine wpAny_bind (wpAny_mono h (fun v s₁ h₁ => ?_) fun _ _ x => x)
  obtain ⟨e, t, rfl, he, hne, hc, hE⟩ := h₁
  obtain ⟨hp, g, d, tk, os⟩ := s₁
  have hsub := F.isExc
  have hmeta := F.plainMeta
  repeat (first | refine wpAny_loadPart he ?_ | wp_step)
  exact raiseNew_in hh hc hne he rfl (by simp) hE

theorem Raise_in {cls newId initId : String} {c : Addr} (FC : ExcCallFacts cls newId initId) (FR : ExcRaiseFacts cls) {x : Str} {np cpos pos : Pos} {e₀ : Expr} {Q : Flow → Shared → Prop} (hh : A.handled = some (.ref c))
    (h : wpAny (model prog w) A (eval (.Name x np) env) (fun f s₁ => f = .type cls ∧ wpAny (model prog w) A (spliced (backTo cpos (starEach [e₀] env)))
      (fun vs s₂ => vs.length ≤ sizeLine ∧ Ctx0 c s₂.heap ∧ ∀ h' e, Heap.MadeExc s₂.heap h' e cls vs → E (.ref e) { s₂ with heap := h'.update e (Obj.mapFields (·.setIfInBounds 2 (.ref c))) }) E s₁) E s)
    (he : starEach [e₀] env = [(false, eval e₀ env)] := by rfl) :
    wpAny (model prog w) A (exec (.Raise (some (.Call (.Name x np) [e₀] [] cpos)) none pos) env) Q E s := by
  rw [arm_exec_Raise]
  have h' : wpAny (model prog w) A (eval (.Call (.Name x np) [e₀] [] cpos) env) (InRaise c cls E) E s := by
    refine wpAny_Call_ofName (wpAny_mono h (fun f s₁ h₁ => ?_) fun _ _ x => x)
    obtain ⟨rfl, h₁⟩ := h₁
    refine callWith_excType (by rw [he]; rfl) ?_
    rw [he] at h₁ ⊢
    refine Calls.evalArgs_plain (wpAny_mono h₁ (fun vs s₂ h₂ => ?_) fun _ _ y => y)
    obtain ⟨hp, g, d, tk, os⟩ := s₂
    refine wpAny_call_exc FC (hrest := h₂.1) fun h' e hm => ?_
    obtain ⟨t, ht, _, _⟩ := hm.there
    obtain ⟨o, ws, k1, k2, k3⟩ := h₂.2.1
    refine ⟨e, t, rfl, ht, fun q => ?_, ⟨o, ws, hm.keeps _ _ k1, k2, k3⟩, h₂.2.2 h' e hm⟩
    subst q
    have := hm.new
    rw [k1] at this; cases this
  first
    | exact wpAny_bind (wpAny_standAt (raiseStmt_in FR hh (wpAny_bind (wpAny_mono h' (fun v s₁ h₁ => wpAny_bind (wpAny_standAt (wpAny_pure h₁))) fun _ _ x => x))))
    | (simp only [evalOpt, Option.map]; exact wpAny_bind (wpAny_standAt (raiseStmt_in FR hh (wpAny_bind (wpAny_mono h' (fun v s₁ h₁ => wpAny_bind (wpAny_standAt (wpAny_pure h₁))) fun _ _ x => x)))))
    | (show wpAny (model prog w) A (do standAt pos; raiseStmt env (some (do let v ← eval (.Call (.Name x np) [e₀] [] cpos) env; standAt pos; pure v)) none) Q E s; exact wpAny_bind (wpAny_standAt (raiseStmt_in FR hh (wpAny_bind (wpAny_mono h' (fun v s₁ h₁ => wpAny_bind (wpAny_standAt (wpAny_pure h₁))) fun _ _ x => x)))))
end

section
variable {M : Model} {A : Around} {E : Value → Shared → Prop} {s' : Shared} {base g h : Heap} {outer : List Env} {L a e : Addr} {m : Str → Option Value} {name : Str} {scope : Scope} {cd : Value} {Q : Unit → Shared → Prop} {news : List (Addr × Obj)}
/-- an exception that was made here leaves, whatever it carries -/
theorem leave_here {cls tp : Value} {ob : Obj} {vs : Array Value} (K : Below A base outer g) (hk : ∀ b o, h.get? b = some o → s'.heap.get? b = some o) (hn : h.get? e = none) (he : s'.heap.get? e = some ob) (hcls : ob.cls = cls) (hd : ob.data = .fields vs)
    (h1 : vs[1]? = some .none) (h0 : vs[0]? = some tp) (F : Fr g L h m) (N : News g L h news)
    (hQ : ∀ h', RaisedSN base g outer e cls news h' → g.UpToSlots h' → Q () { s' with heap := h' }) (hkf : scope.kind = .function := by rfl) :
    wpAny M (A.deeper (envOf name scope L a cd)) (leaving (envOf name scope L a cd) (.ref e)) Q E s' := by
  have K' := K.push (name := name) (a := a) (cd := cd) F hkf
  have hin : ∀ env ∈ (envOf name scope L a cd :: outer), ∀ b, env.frame = some b → b ∈ frs (envOf name scope L a cd :: outer) := fun env he b hb => List.mem_filterMap.mpr ⟨env, he, hb⟩
  have st : base.StaysIn (hideAll h (frs (envOf name scope L a cd :: outer))) := fun b o q => hideAll_get _ (K'.stays b o q) fun hm => by
    rw [(K'.frames.mem hm).1] at q; cases q
  have sg : ∀ b o, g.get? b = some o → b ∉ frs outer → (hideAll h (frs (envOf name scope L a cd :: outer))).get? b = some o := fun b o q nm => hideAll_get _ (F.keep b o q) fun hm => by
    rw [frs_cons rfl] at hm
    rcases List.mem_cons.mp hm with z | z
    · rw [z, kts_self F] at q
      cases q
    · exact nm z
  have hl : ∀ q ∈ news, (hideAll h (frs (envOf name scope L a cd :: outer))).get? q.1 = some q.2 ∧ g.get? q.1 = none ∧ base.get? q.1 = none := fun q hq => by
    refine ⟨hideAll_get _ (N q hq).1 fun hm => ?_, (N q hq).2.2, fresh_of_stays K.stays (N q hq).2.2⟩
    rw [frs_cons rfl] at hm
    rcases List.mem_cons.mp hm with z | z
    · exact (N q hq).2.1 z
    · obtain ⟨o, ho⟩ := frame_in K z
      rw [(N q hq).2.2] at ho; cases ho
  have hen : (hideAll h (frs (envOf name scope L a cd :: outer))).get? e = none := by
    cases q : (hideAll h (frs (envOf name scope L a cd :: outer))).get? e with
    | none => rfl
    | some o => have := of_hideAll _ q; rw [hn] at this; cases this
  refine wpAny_leaving_firstW (a0 := tp) K'.stack ((funFrames_hide K'.frames hin).of_keeps fun b o hb _ => ⟨o, hk b o hb, rfl⟩) rfl he (fun b o hb => hk b o (of_hideAll _ hb)) hen hd h1 h0 fun h' hL => ?_
  obtain ⟨k1, ⟨_, _, k2⟩, k3, k4⟩ := hL
  exact hQ h' ⟨_, tp, st, sg, hl, k1, hen, k2, by rw [← hcls]; exact k3⟩ (((Heap.UpToSlots.of_keeps F.keep).trans (Heap.UpToSlots.of_keeps hk)).trans k4)
end

section
variable {prog : Program} {w : World} {A₀ : Around} {E : Value → Shared → Prop} {s' : Shared} {base g g₀ G : Heap} {outer : List Env} {L a e : Addr} {m : Str → Option Value} {name : Str} {scope : Scope} {cd : Value}
  {b₀ : Stmt} {suite : List Stmt} {pos np : Pos} {rest : List ExceptHandler} {Q : Flow → Shared → Prop} {news : List (Addr × Obj)} {KF : Frag}
  {p : Program} {loose : List Str} {mean : ExcName → Option Value} {mg mb : Str → Option Value} {x : Str} {X T' : String}

/-- a callee's exception is caught, and it has no context -/
theorem caught_ctx (hcx : Ctx0 e s'.heap) (R : RaisedSN base G (envOf name scope L a cd :: outer) e (.type X) news s'.heap) (F : Fr g L G m) (K : Below A₀ base outer g) (hsm : G.UpToSlots s'.heap) (XB : KF.In base) (TB : Top p loose mean mg mb base)
    (D : KtsDicts (frs outer) g)
    (ex : nsIn KF mainGlobals x = some none) (hv : bootBuiltins x = some (.type T')) (hn' : x ≠ "__name__")
    (hexc : isSubtype (.type T') (.type "BaseException") = pure true) (hnt : isSubtype (.type ((Manifest.find? T').elim "type" fun y => y.metatype)) (.type "tuple") = pure false) (hsub : isSubtype (.type X) (.type T') = pure true)
    (k : ∀ h' g', Ctx0 e h' → KtsTurn (frs outer) g g' → Fr g' L h' m → News g' L h' news → Below A₀ base outer g' → KF.In g' → Top p loose mean mg mb g' → KtsDicts (frs outer) g' →
      wpAny (model prog w) ((A₀.deeper (envOf name scope L a cd)).mark (some (.ref e))) (execs (b₀ :: suite) (envOf name scope L a cd)) Q E { s' with heap := h' })
    (hk : scope.kind = .function := by rfl) (hx : (envOf name scope L a cd).kindOf x = some .globalImplicit := by rfl) (hd : (x == ("__debug__" : Str)) = false := by decide)
    (hE : PassesOwnAt (model prog w) ((A₀.deeper (envOf name scope L a cd)).mark (some (.ref e))) (A₀.deeper (envOf name scope L a cd)) (envOf name scope L a cd) E := by passes_own) :
    wpAny (model prog w) (A₀.deeper (envOf name scope L a cd)) (noteFrame (.ref e) (envOf name scope L a cd))
      (fun _ s₂ => wpAny (model prog w) (A₀.deeper (envOf name scope L a cd)) (setFlight (.ref e) none) (fun _ s₃ =>
        wpAny (model prog w) (A₀.deeper (envOf name scope L a cd)) (handleBy (.ref e) (envOf name scope L a cd) (.ExceptHandler (some (.Name x np)) none (b₀ :: suite) pos :: rest)) Q E s₃) E s₂) E s' := by
  obtain ⟨B, a0, hB, hBG, hl, hfl⟩ := R
  have hL : B.get? L = none := by
    obtain ⟨_, ⟨L', _, hf, hn', _⟩, _⟩ := hfl.2.2.1
    obtain rfl : L = L' := Option.some.inj hf
    exact hn'
  refine ctx_after KeepsC.note hcx (wpAny_mono (E := fun v s' => Ctx0 e s'.heap → E v s') ?_ (fun _ _ y => y) fun _ _ y => y)
  refine wpAny_looks_onW (Around.frames_deeper K.stack) rfl hfl fun h₄ hheld₄ hsm₄ hcx₄ => ?_
  refine ctx_after KeepsC.setFlight hcx₄ ?_
  refine wpAny_landsW hheld₄ fun h₅ hheld hsm₅' hcx₅ => ?_
  have hsm₅ := hsm₄.trans hsm₅'
  obtain ⟨g₅, T₅, F₅, K₅⟩ := kts_ground K F hBG hheld.1 (hsm.trans hsm₅)
  have X₅ : KF.In g₅ := XB.keeps K₅.stays
  have P₅ : TopRead p loose mg mb g₅ := topRead_of (TB.keeps K₅.stays)
  obtain ⟨ob, hob, hobc⟩ := hheld.there
  refine wpAny_handleBy_builtin (X := X) (T := T') (b := true) hexc hnt hsub (name_B F₅ X₅ P₅ ex hv hn' ⟨rfl, ⟨ob, hob, hobc⟩, ?_⟩ hk hx hd)
  refine ctx_after KeepsC.setFlight hcx₅ ?_
  refine lands_againW hheld fun h₆ hfl₆ hsm₆ hcx₆ => ?_
  obtain ⟨g₆, T₆, F₆, K₆⟩ := kts_ground K F hBG hfl₆.1 ((hsm.trans hsm₅).trans hsm₆)
  have Nl : News g₆ L h₆ news := fun q hq => ⟨hfl₆.1 _ _ (hl q hq).1, (fun z => by have := (hl q hq).1; rw [z, hL] at this; cases this), T₆.none_ _ (kts_none F.keep (hl q hq).2.1)⟩
  exact wpAny_passesOwnAt hE (k h₆ g₆ hcx₆ T₆ F₆ Nl K₆ (XB.keeps K₆.stays) (TB.keeps K₆.stays) (D.turn T₆))
end
theorem leave_in {M : Model} {A : Around} {E : Value → Shared → Prop} {s' : Shared} {base g h h' : Heap} {outer : List Env} {L a e c : Addr} {m : Str → Option Value} {name : Str} {scope : Scope} {cd : Value} {Q : Unit → Shared → Prop} {news : List (Addr × Obj)} {cls : String} {vs : List Value}
    (K : Below A base outer g) (x : Heap.MadeExc h h' e cls vs) (hs : s'.heap = h'.update e (Obj.mapFields (·.setIfInBounds 2 (.ref c)))) (F : Fr g L h m) (N : News g L h news)
    (hQ : ∀ h', RaisedSN base g outer e (.type cls) news h' → g.UpToSlots h' → Q () { s' with heap := h' }) (hkf : scope.kind = .function := by rfl) :
    wpAny M (A.deeper (envOf name scope L a cd)) (leaving (envOf name scope L a cd) (.ref e)) Q E s' := by
  obtain ⟨t, ht, _, _⟩ := x.there
  refine leave_here (h := h) (tp := .ref t) (ob := Obj.mapFields (·.setIfInBounds 2 (.ref c)) { cls := .type cls, data := .fields #[.ref t, .none, .none, .none, .bool false, .none] }) K (fun b o q => ?_) x.new ?_ rfl rfl rfl rfl F N hQ hkf
  · rw [hs, Heap.get?_update_other _ _ (fun z => by rw [z] at x; rw [x.new] at q; cases q)]
    exact x.keeps b o q
  · rw [hs]
    exact Heap.get?_update_self _ ht rfl

theorem fill_p42_over : PySem.Challenge.rw_eg5038_01 = PySem.Challenge.rw_eg5038_01 ∧ hd.heap_39 = hd.heap_39 := by w_top off; k_fill; exact ⟨rfl, rfl⟩

theorem stop_not_tuple : isSubtype (.type ((Manifest.find? "StopIteration").elim "type" fun x => x.metatype)) (.type "tuple") = pure false := by
  rw [show ((Manifest.find? "StopIteration").elim "type" fun x => x.metatype) = "type" from by kernel_rfl, isSubtype_type]; kernel_rfl
set_option maxHeartbeats 4000000 in
theorem getitem_assert {w : World} {mean : ExcName → Option Value} {mg mb : Str → Option Value} {b : Heap} {r : RowSt} {i : Nat} {t : Tok} (hi : r.last < r.idx) (hel : r.els.length = i) (hi' : i < 16777216) :
    Raises w mean mg mb 105 8 80 [.ref r.x, .int (i : Int) t] (rowLed w r) b "AssertionError" (fun led' => led' = rowLed w r) := by
  obtain ⟨x0, dx, el, kw, t0, t1, t2, t3, t4, t5, t6, t7, C, tc, first, tf, last, tl, idx, ti, len, els, ne⟩ := r
  dsimp only at hi hel ⊢
  subst hel
  have hz : els.length ≤ sizeLine := by rw [sizeLine_eq]; omega
  refine' raises_of (binds := [("self", .ref x0), ("i", .int (els.length : Int) t)]) ?_ ?_ ?_ ?_ ?_ ?_ ?_ ?_ ?_
  walk_at "m_enter"
  intro dp un gd outer g L h₁ s Q hdp hu XB TB hbg F N B X T D hnd hret
  obtain ⟨a1, a2, a3⟩ := row_apart hnd
  dsimp only at a1 a2 a3
  unfold rowLed rowEnts at N
  dsimp only at N
  walk_at "m_steps"
  refine Paused.on (whl_start 1 ?_)
  walk_at "m_steps"
  refine WhlIf.yes (decide_eq_true (by omega)) ?_
  walk_at "m_steps"
  (rename Fr _ _ _ _ => F1); (rename News _ _ _ _ => N1)
  refine Paused.on ?_
  dsimp only [List.cons_append, List.nil_append]
  refine callR (rest := []) XB TB B D F1 N1 hnd rfl rfl rfl rfl ?_ ?_ (fun b' _ _ _ => next_assert (r := ⟨x0, dx, el, kw, t0, t1, t2, t3, t4, t5, t6, t7, C, tc, first, tf, last, tl, idx, ti, len, els, ne⟩) hi) ?_
  · show dp + 1 + 4 < recursionLimit; omega
  · show un + 3 + 40 < cLine; omega
  rintro e led' h' tk' G R FG U hnd' rfl -
  clear N1 F1
  walk_at "m_steps"
  (rename RaisedSN _ _ _ _ _ _ _ => S9)
  have hR := RaisedSN.sub S9 (fun p hp => List.mem_append_left _ hp)
  exact hret _ _ _ _ hR (by assumption) (row_nodup' a1 a2 a3) rfl fun h => absurd h (by decide)

set_option maxHeartbeats 4000000 in
theorem getitem_over {w : World} {mean : ExcName → Option Value} {mg mb : Str → Option Value} {b : Heap} {r : RowSt} {i : Nat} {t : Tok} (hi : r.idx = r.last) (hel : r.els.length = i) (hi' : i < 16777216) :
    Raises w mean mg mb 105 8 80 [.ref r.x, .int (i : Int) t] (rowLed w r) b "IndexError" (fun led' => ∃ r', led' = rowLed w r' ∧ RowEnd r r') := by
  obtain ⟨x0, dx, el, kw, t0, t1, t2, t3, t4, t5, t6, t7, C, tc, first, tf, last, tl, idx, ti, len, els, ne⟩ := r
  dsimp only at hi hel ⊢
  subst hel hi
  have hz : els.length ≤ sizeLine := by rw [sizeLine_eq]; omega
  refine' raises_of (binds := [("self", .ref x0), ("i", .int (els.length : Int) t)]) ?_ ?_ ?_ ?_ ?_ ?_ ?_ ?_ ?_
  walk_at "m_enter"
  intro dp un gd outer g L h₁ s Q hdp hu XB TB hbg F N B X T D hnd hret
  obtain ⟨a1, a2, a3⟩ := row_apart hnd
  dsimp only at a1 a2 a3
  unfold rowLed rowEnts at N
  dsimp only at N
  walk_at "m_steps"
  refine Paused.on (whl_start 1 ?_)
  walk_at "m_steps"
  refine WhlIf.yes (decide_eq_true (by omega)) ?_
  walk_at "m_steps"
  (rename Fr _ _ _ _ => F1); (rename News _ _ _ _ => N1)
  refine Paused.on ?_
  dsimp only [List.cons_append, List.nil_append]
  refine callR (rest := []) XB TB B D F1 N1 hnd rfl rfl rfl rfl ?_ ?_ (fun b' _ _ _ => next_stop (r := ⟨x0, dx, el, kw, t0, t1, t2, t3, t4, t5, t6, t7, C, tc, first, tf, idx, tl, idx, ti, len, els, ne⟩) rfl hz) ?_
  · show dp + 1 + 4 < recursionLimit; omega
  · show un + 3 + 40 < cLine; omega
  rintro e led' h' tk' G R FG U hnd' ⟨r', rfl, hr'⟩ hcx
  clear N1 F1
  rw [List.append_nil] at hnd'
  obtain ⟨a1', a2', a3'⟩ := row_apart hnd'
  obtain ⟨x0', dx', el', kw', t0', t1', t2', t3', t4', t5', t6', t7', C', tc', first', tf', last', tl', idx', ti', len', els', ne'⟩ := r'
  obtain ⟨rx, rdx, rel, rc, rf, rl, ri, re, tq, rle⟩ := hr'
  dsimp only at rx rdx rel rc rf rl ri re rle a1' a2' a3'
  subst rx rdx rel rc rf rl ri re rle
  unfold rowLed rowEnts at R
  dsimp only [List.append_nil, List.cons_append, List.nil_append] at R
  have hc := hcx rfl
  clear hcx
  k_dflt (refine' caught_ctx (X := "StopIteration") (T' := "StopIteration") ?hc ?R ?F ?K ?U ?XB ?TB ?D ?ex PyProof.Rows.Boot.«StopIteration» ?hn owsi_raise.isExc stop_not_tuple owsi_facts.sub ?_; (case hc => assumption); (case R => assumption); (case F => assumption); (case K => assumption); (case U => assumption); (case XB => assumption); (case TB => assumption); (case D => assumption); (case ex => k_is); (case hn => decide); k_whole)
  clear R FG U hc
  intro h₂ g₂ hc₂ T₂ F₂ N₂ K₂ X₂ P₂ D₂
  walk_at "m_steps"
  k_dflt (refine' Raise_in (cls := "IndexError") PySem.F.excCall_IndexError PySem.F.excRaise_IndexError ?hh (name_B ?k1 ?k2 ?k3 ?k4 PyProof.Rows.Boot.«IndexError» ?k5 ⟨rfl, ?_⟩); (case hh => rfl); (case k1 => exact F₂); (case k2 => k_asm); (case k3 => k_asm); (case k4 => k_is); (case k5 => decide))
  walk_at "m_steps"
  · exact hc₂
  · (rename Heap.MadeExc _ _ _ _ _ => X9)
    refine leave_in K₂ X9 rfl F₂ N₂ fun h₃ R₃ U₃ => ?_
    obtain ⟨R₄, U₄⟩ := raised_turn T₂ R₃ U₃
    have hR := RaisedSN.sub R₄ (sub_row (w := w) (x := x0') (dx := dx') (el := el') (by k_mem) (by k_mem) (by k_mem))
    exact hret _ _ _ _ hR U₄ (row_nodup' a1' a2' a3') ⟨_, rfl, ⟨rfl, rfl, rfl, rfl, rfl, rfl, rfl, rfl, ⟨_, rfl⟩⟩⟩ fun h => absurd h (by decide)

theorem fill_p43_joins : PySem.Challenge.rw_eg5038_01 = PySem.Challenge.rw_eg5038_01 ∧ hd.heap_39 = hd.heap_39 := by w_top off; k_fill; exact ⟨rfl, rfl⟩

/-- where the ways of a statement meet again -/
def Joined (Mid : Shared → Prop) (f : Flow) (s : Shared) : Prop := f = .next ∧ Mid s
def JoinedV (Mid : Value → Shared → Prop) (v : Value) (s : Shared) : Prop := Mid v s
theorem join {M : Model} {A : Around} {t : Sem Flow} {Q : Flow → Shared → Prop} {E : Value → Shared → Prop} {s : Shared} (Mid : Shared → Prop) (h : wpAny M A t (Joined Mid) E s) (k : ∀ s', Mid s' → Q .next s') : wpAny M A t Q E s :=
  wpAny_mono h (fun f s' x => by obtain ⟨rfl, x⟩ := x; exact k s' x) fun _ _ x => x
theorem joinV {M : Model} {A : Around} {t : Sem Value} {Q : Value → Shared → Prop} {E : Value → Shared → Prop} {s : Shared} (Mid : Value → Shared → Prop) (h : wpAny M A t (JoinedV Mid) E s) (k : ∀ v s', Mid v s' → Q v s') : wpAny M A t Q E s :=
  wpAny_mono h (fun v s' x => k v s' x) fun _ _ x => x
section
variable {prog : Program} {w : World} {A : Around} {E : Value → Shared → Prop} {s : Shared} {h₀ : Heap} {L l : Addr} {m : Str → Option Value} {vs : List Value} {Q : Value → Shared → Prop}
theorem place_neg {value slice : Expr} {i : Int} {u : Tok} {x : Value} (F : Fr h₀ L s.heap m) (hl : h₀.IsList l vs.toArray) (hi : i < 0) (h1 : -(vs.length : Int) ≤ i) (hz : vs.length ≤ sizeLine) (hx : vs[(i + vs.length).toNat]? = some x) (h : Q x s)
    (hs : subscripted slice false (.ref l) (.int i u) = operate [.ref l, .int i u] (getItem (.ref l) (.int i u)) := by with_unfolding_all rfl) (hg : ∀ r, letTemporaryGo value (.ref l) r = pure () := by intro _; with_unfolding_all rfl) :
    wpAny (model prog w) A (subscriptTail value slice (.ref l) (.int i u)) Q E s := by
  have hl' := hl.at fun o e => F.keep _ o e
  rw [sizeLine_eq] at hz
  exact subscriptTail_builtin hl'.typeIs slot_list_getitem.lookup (wpAny_getItem_list_neg hl' hi (by rw [List.size_toArray]; exact h1) (by omega) (by rw [List.size_toArray]; simpa using hx) h) hs hg
end

/-- what a row gave for a kid -/
def GotIs (H : Addr → Obj → Prop) (v : Value) (t : Tree) : Prop :=
  match t with
  | .leaf x => ∃ tk, v = .bytes x.toArray tk
  | .node _ => ∃ a dx, v = .ref a ∧ H a (instObj 115 dx)
theorem GotIs.mono {H H' : Addr → Obj → Prop} (k : ∀ a o, H a o → H' a o) {v : Value} {t : Tree} (h : GotIs H v t) : GotIs H' v t := by
  cases t with
  | leaf x => exact h
  | node us => obtain ⟨a, dx, h1, h2⟩ := h; exact ⟨a, dx, h1, k _ _ h2⟩
theorem Got.at {w : World} {C : List UInt8} {p : Nat} {vs : List Value} {ts : List Tree} {c : List (Addr × Obj)} (h : Got w C p vs ts c) : ∀ {i : Nat} {v : Value} {t : Tree}, vs[i]? = some v → ts[i]? = some t → GotIs (inLed c) v t := by
  induction h with
  | nil p => intro i v t h1; simp at h1
  | leaf _ ih =>
    intro i v t h1 h2
    cases i with
    | zero => simp at h1 h2; subst h1 h2; exact ⟨_, rfl⟩
    | succ j => simp at h1 h2; exact ih h1 h2
  | @node p s0 rc us vs ts c _ _ _ _ ih =>
    intro i v t h1 h2
    cases i with
    | zero => simp at h1 h2; subst h1 h2; exact ⟨rc.x, rc.dx, rfl, List.mem_append_left _ (.head _)⟩
    | succ j => simp at h1 h2; exact (ih h1 h2).mono fun a o hm => List.mem_append_right _ hm

theorem same_any {w : World} {mean : ExcName → Option Value} {mg mb : Str → Option Value} {b : Heap} {got kid : Value} {t : Tree} {n : Nat} (hd : Deep n t) (hk : IsTree (inHeap b) kid t) (hg : GotIs (inHeap b) got t) :
    Quiet w mean mg mb 159 1 10 [got, kid] [] b (fun r led' => led' = [] ∧ r = .bool true) := by
  cases hk with
  | leaf x t' => obtain ⟨tk, rfl⟩ := hg; exact same_leaf hd.leaf
  | node hl _ _ => obtain ⟨a, dx, rfl, hx⟩ := hg; exact same_node hl hx
/-- the ground after a while: frames may have been looked at, all else stands -/
structure Stand (w : World) (mean : ExcName → Option Value) (mg mb : Str → Option Value) (A : Around) (b : Heap) (outer : List Env) (g g' : Heap) : Prop where
  turn : KtsTurn (frs outer) g g'
  below : Below A b outer g'
  K : (hd.heap_39 w.params).In g'
  T : Top P loose mean mg mb g'
  D : KtsDicts (frs outer) g'
theorem Got.cut {w : World} {C : List UInt8} {p : Nat} {v : Value} {vs : List Value} {t : Tree} {ts : List Tree} {c : List (Addr × Obj)} (h : Got w C p (v :: vs) (t :: ts) c) : ∃ cv cr, c = cv ++ cr ∧ Got w C p [v] [t] cv ∧ Got w C (p + (code t).length) vs ts cr := by
  cases h with
  | leaf h0 => exact ⟨[], _, rfl, .leaf (.nil _), h0⟩
  | node h1 h2 h3 h0 =>
    refine ⟨_, _, rfl, ?_, h0⟩
    have := Got.node (w := w) h1 h2 h3 (.nil _)
    rw [List.append_nil] at this
    exact this
theorem Got.one {w : World} {C : List UInt8} {p : Nat} {v : Value} {t : Tree} {c : List (Addr × Obj)} (h : Got w C p [v] [t] c) : GotIs (inLed c) v t := h.at (i := 0) rfl rfl
theorem range_up {n : Nat} (h : n ≤ 16777216) : Builtin.Range.small 0 (n : Int) 1 = true ∧ Builtin.Range.rangeSize 0 (n : Int) 1 = (n : Int) := by
  refine ⟨small_one (by omega) (by omega) (by omega) (by omega), ?_⟩
  rw [rangeSize_one]
  split <;> omega
theorem range_down {n : Nat} (h : n ≤ 16777216) : Builtin.Range.small ((n : Int) - 1) (-1) (-1) = true ∧ Builtin.Range.rangeSize ((n : Int) - 1) (-1) (-1) = (n : Int) := by
  have hs : Builtin.Range.rangeSize ((n : Int) - 1) (-1) (-1) = (n : Int) := by
    unfold Builtin.Range.rangeSize
    rw [if_neg (by decide)]
    split
    · have : - (-1 : Int) = 1 := by decide
      rw [this, Int.ediv_one]; omega
    · omega
  refine ⟨?_, hs⟩
  unfold Builtin.Range.small
  rw [hs]
  unfold Builtin.Range.rangeFitsLong
  simp only [Bool.and_eq_true, Bool.or_eq_true, decide_eq_true_eq, beq_iff_eq, show ¬ ((-1 : Int) > 0) by decide, if_false]
  refine ⟨⟨⟨⟨?_, ?_⟩, ?_⟩, ?_⟩, Or.inr ?_⟩ <;> omega
theorem Fr_as {g h : Heap} {L : Addr} {m m' : Str → Option Value} (F : Fr g L h m) (e : m = m') : Fr g L h m' := e ▸ F
def rowM0 (x0 ka : Addr) (p z : Nat) (C : List UInt8) (N : Int) (tf tl tc tn : Tok) : Str → Option Value := fun y => List.lookup y [(Str.ofString "row", Value.ref x0), (Str.ofString "kids", Value.ref ka), (Str.ofString "first", Value.int (p : Int) tf), (Str.ofString "last", Value.int ((p : Int) + (z : Int)) tl), (Str.ofString "code", Value.bytes C.toArray tc), (Str.ofString "n", Value.int N tn)].reverse
def rowM1 (ah : Bool) (m : Str → Option Value) : Str → Option Value := fun y => if y = Str.ofString "ahead" then some (.bool ah) else m y
def rowM2 (pl : Option Value) (gv got size kO : Option Value) (m : Str → Option Value) : Str → Option Value := fun y => if y = Str.ofString "place" then pl else if y = Str.ofString "given" then gv else if y = Str.ofString "got" then got else if y = Str.ofString "size" then size else if y = Str.ofString "k" then kO else m y
theorem News.perm {g h : Heap} {L : Addr} {l l' : List (Addr × Obj)} (N : News g L h l) (p : l'.Perm l) : News g L h l' := fun q hq => N q (p.mem_iff.mp hq)
theorem nodup_perm {l l' : List (Addr × Obj)} (h : (l.map (·.1)).Nodup) (p : l'.Perm l) : (l'.map (·.1)).Nodup := ((p.map _).nodup_iff).mpr h
theorem pull1 {l c : List (Addr × Obj)} {a : Addr × Obj} : (l ++ a :: c).Perm (a :: (l ++ c)) := List.perm_middle
theorem pull2 {l c : List (Addr × Obj)} {a b : Addr × Obj} : (l ++ a :: b :: c).Perm (a :: b :: (l ++ c)) := List.perm_middle.trans (List.Perm.cons _ List.perm_middle)
def kM (i : Int) (t : Tok) (m : Str → Option Value) : Str → Option Value := fun y => if y = Str.ofString "k" then some (.int i t) else m y

/-- the row when the next kid has just been got -/
structure RowGot (w : World) (x dx el : Addr) (C : List UInt8) (ts : List Tree) (p : Nat) (ah : Bool) (i : Nat) (r : RowSt) (dn : List Value) (v : Value) (us : List Value) (cr : List (Addr × Obj)) : Prop where
  x : r.x = x
  dx : r.dx = dx
  el : r.el = el
  code : r.code = C
  last : r.last = (p : Int) + (body ts).length
  len : r.len = .none
  els : r.els = dn ++ v :: us
  done : dn.length = i
  ahead : ah = true → r.idx = (p : Int) + (body ts).length ∧ Got w C (p + (body (ts.take (i + 1))).length) us (ts.drop (i + 1)) cr
  along : ah = false → r.idx = (p : Int) + (body (ts.take (i + 1))).length ∧ us = [] ∧ cr = []
theorem getitem_one {w : World} {mean : ExcName → Option Value} {mg mb : Str → Option Value} {b : Heap} {r : RowSt} {i p n : Nat} {tk : Tok} {t : Tree} (hC : r.code.length ≤ 16777216) (hi : r.idx = (p : Int)) (hlt : (p : Int) + (code t).length ≤ r.last) (hA : AtCode r.code p (code t)) (hn : n ≤ 3) (hd : Deep n t)
    (hlen : r.els.length = i) (hel : i < 16777216) :
    Quiet w mean mg mb 105 16 200 [.ref r.x, .int (i : Int) tk] (rowLed w r) b (fun v led' => ∃ r' c, led' = rowLed w r' ++ c ∧ RowNext r r' v ((p : Int) + (code t).length) ∧ Got w r.code p [v] [t] c) := by
  have e : body [t] = code t := by simp [body]
  refine (getitem_more (ts := [t]) hC hi (by rw [e]; exact hlt) (by rw [e]; exact hA) hn (fun t' ht => by rw [List.mem_singleton] at ht; subst ht; exact hd) (by simp [hlen]) (by simp) hel).post (Nat.le_refl _) (Nat.le_refl _) ?_
  rintro v led' ⟨r', vs, c, h1, h2, h3, h4⟩
  have hl := h3.lengths
  match vs, hl with
  | [v'], _ =>
    rw [h2.els, ← hlen, List.getElem?_append_right (Nat.le_refl _), Nat.sub_self] at h4
    simp at h4
    subst h4
    exact ⟨r', c, h1, ⟨h2.x, h2.dx, h2.el, h2.code, h2.first, h2.last, h2.len, by rw [h2.idx, e], h2.els⟩, h3⟩
/-- ways that change nothing but the tokens -/
theorem joinP {M : Model} {A : Around} {t : Sem Value} {Q : Value → Shared → Prop} {E : Value → Shared → Prop} {s : Shared} (P : Value → Prop) (h : wpAny M A t (JoinedV fun v s' => P v ∧ ∃ k, s' = { s with toks := k }) E s) (k : ∀ v tk, P v → Q v { s with toks := tk }) : wpAny M A t Q E s :=
  wpAny_mono h (fun v s' x => by obtain ⟨x, tk, rfl⟩ := x; exact k v tk x) fun _ _ x => x
theorem IsTree.split {H : Addr → Obj → Prop} {v : Value} {t : Tree} (h : IsTree H v t) : (∃ x tk, v = .bytes x.toArray tk ∧ t = .leaf x) ∨ (∃ a vs n us, v = .ref a ∧ t = .node us ∧ H a (listOf vs.toArray n) ∧ AreTrees H vs us) := by
  cases h with
  | leaf x t => exact .inl ⟨x, t, rfl, rfl⟩
  | node hl hn ht => exact .inr ⟨_, _, _, _, rfl, rfl, hl, hn, ht⟩
theorem mid_sub {a b : Addr × Obj} {l cv cr : List (Addr × Obj)} : (a :: b :: (l ++ cr)).Sublist (a :: b :: (l ++ (cv ++ cr))) := ((List.Sublist.refl l).append (List.sublist_append_right cv cr)).cons₂ b |>.cons₂ a
theorem nodup_sub {l l' : List (Addr × Obj)} (s : l'.Sublist l) (h : (l.map (·.1)).Nodup) : (l'.map (·.1)).Nodup := h.sublist (s.map _)
theorem nodup_head {p : Addr × Obj} {l : List (Addr × Obj)} (h : ((p :: l).map (·.1)).Nodup) : ∀ q ∈ l, q.1 ≠ p.1 := fun q hq e => (List.nodup_cons.mp h).1 (List.mem_map.mpr ⟨q, hq, e⟩)
theorem Got.node_inv {w : World} {C : List UInt8} {p : Nat} {v : Value} {us : List Tree} {cv : List (Addr × Obj)} (h : Got w C p [v] [.node us] cv) : ∃ (s0 : Nat) (rc : RowSt), v = .ref rc.x ∧ cv = rowLed w rc ∧ RowFresh rc C (s0 : Int) ((p : Int) + (code (.node us)).length) ∧ AtCode C s0 (body us) ∧ s0 + (body us).length = p + (code (.node us)).length := by
  cases h with
  | node h1 h2 h3 h0 =>
    cases h0
    exact ⟨_, _, rfl, List.append_nil _, h1, h2, h3⟩
theorem pull3 {a b : Addr × Obj} {l c d : List (Addr × Obj)} : (c ++ a :: b :: (l ++ d)).Perm (a :: b :: (l ++ (c ++ d))) := by
  refine pull2.trans (List.Perm.cons _ (List.Perm.cons _ ?_))
  rw [← List.append_assoc, ← List.append_assoc]
  exact List.perm_append_comm.append_right d
theorem pull2' {a b : Addr × Obj} {l : List (Addr × Obj)} : (l ++ [a, b]).Perm (a :: b :: l) := by
  have := pull2 (l := l) (c := []) (a := a) (b := b)
  rwa [List.append_nil] at this
theorem pull1' {a : Addr × Obj} {l : List (Addr × Obj)} : (l ++ [a]).Perm (a :: l) := by
  have := pull1 (l := l) (c := []) (a := a)
  rwa [List.append_nil] at this
theorem RaisedSN.perm {base G : Heap} {l : List Env} {e : Addr} {cls : Value} {news news' : List (Addr × Obj)} {h : Heap} (R : RaisedSN base G l e cls news h) (p : news'.Perm news) : RaisedSN base G l e cls news' h := RaisedSN.sub R fun q hq => p.mem_iff.mp hq

local macro_rules | `(tactic| walk_at "exec Assign") => `(tactic| (k_here; (with_reducible show wpAny _ _ (exec (Stmt.Assign [Expr.Name ("ahead" : Str) _] _ _) _) _ _ _); (fail_if_success (with_reducible show wpAny _ _ _ (Joined _) _ _)); refine pause ?_))
local macro_rules | `(tactic| walk_at "exec If") => `(tactic| (k_here; (with_reducible show wpAny _ _ (exec (Stmt.If (Expr.BoolOp _ [Expr.Name ("ahead" : Str) _, _] _) _ _ _) _) _ _ _); (fail_if_success (with_reducible show wpAny _ _ _ (Joined _) _ _)); refine pause ?_))
local macro_rules | `(tactic| walk_at "eval IfExp") => `(tactic| (k_here; (fail_if_success (with_reducible show wpAny _ _ _ (JoinedV _) _ _)); refine pause ?_))
local macro_rules | `(tactic| walk_at "m_map") => `(tactic| (funext y; unfold rowM2 rowM1 rowM0; by_cases h0 : y = Str.ofString "place"; (subst h0; rfl); by_cases h1 : y = Str.ofString "given"; (subst h1; rfl); by_cases h2 : y = Str.ofString "got"; (subst h2; rfl); by_cases h3 : y = Str.ofString "size"; (subst h3; rfl); by_cases h4 : y = Str.ofString "k"; (subst h4; rfl); (first | (simp only [if_neg h0, if_neg h1, if_neg h2, if_neg h3, if_neg h4]; done) | (simp only [if_neg h0, if_neg h1, if_neg h2, if_neg h3, if_neg h4]; rfl))))
local macro_rules | `(tactic| walk_at "subscriptTail Name Name ref int") => `(tactic| (k_here; (first | (with_reducible show wpAny _ _ (subscriptTail (Expr.Name ("kids" : Str) _) _ _ _) _ _ _) | (with_reducible show wpAny _ _ (subscriptTail (Expr.Name ("given" : Str) _) _ _ _) _ _ _)); refine pause ?_))

theorem fill_p44_row : PySem.Challenge.rw_eg5038_01 = PySem.Challenge.rw_eg5038_01 ∧ hd.heap_39 = hd.heap_39 := by w_top off; k_fill; exact ⟨rfl, rfl⟩

def PRow (w : World) (mean : ExcName → Option Value) (mg mb : Str → Option Value) (n : Nat) : Prop := ∀ (b : Heap) (r : RowSt) (ka : Addr) (vs : List Value) (k : Nat) (ts : List Tree) (C : List UInt8) (p : Nat) (first last N : Int) (tf tl tc tn : Tok),
  b.get? ka = some (listOf vs.toArray k) → AreTrees (inHeap b) vs ts → ts.length ≤ 5 → (∀ t ∈ ts, Deep n t) → C.length ≤ 16777216 → AtCode C p (body ts) → RowFresh r C first last → first = (p : Int) → last = (p : Int) + (body ts).length →
  Loud w mean mg mb 166 (n + 30) (3 * n + 300) [.ref r.x, .ref ka, .int first tf, .int last tl, .bytes C.toArray tc, .int N tn] (rowLed w r) b (fun v led' => v = .bool true ∧ led' = [])
/-- the row while its kids are gone through: i of them are done -/
structure RowAt (w : World) (x dx el : Addr) (C : List UInt8) (ts : List Tree) (p : Nat) (ah : Bool) (i : Nat) (r : RowSt) (dn us : List Value) (c : List (Addr × Obj)) : Prop where
  x : r.x = x
  dx : r.dx = dx
  el : r.el = el
  code : r.code = C
  last : r.last = (p : Int) + (body ts).length
  len : r.len = .none
  els : r.els = dn ++ us
  done : dn.length = i
  ahead : ah = true → r.idx = (p : Int) + (body ts).length ∧ Got w C (p + (body (ts.take i)).length) us (ts.drop i) c
  along : ah = false → r.idx = (p : Int) + (body (ts.take i)).length ∧ us = [] ∧ c = []
  leafs : ∀ (j : Nat) (x : List UInt8), j < i → ts[j]? = some (.leaf x) → ∃ tk, dn[j]? = some (.bytes x.toArray tk)
  nodes : ∀ (j : Nat) (us : List Tree), j < i → ts[j]? = some (.node us) → ∃ a, dn[j]? = some (.ref a)
theorem RowGot.at {w : World} {x dx el : Addr} {C : List UInt8} {ts : List Tree} {p : Nat} {ah : Bool} {i : Nat} {r : RowSt} {dn us : List Value} {v : Value} {cr : List (Addr × Obj)} {H : Addr → Obj → Prop} {t : Tree} (h : RowGot w x dx el C ts p ah i r dn v us cr)
    (hlf : ∀ (j : Nat) (x : List UInt8), j < i → ts[j]? = some (.leaf x) → ∃ tk, dn[j]? = some (.bytes x.toArray tk)) (hnd : ∀ (j : Nat) (us : List Tree), j < i → ts[j]? = some (.node us) → ∃ a, dn[j]? = some (.ref a))
    (ht : ts[i]? = some t) (hg : GotIs H v t) : RowAt w x dx el C ts p ah (i + 1) r (dn ++ [v]) us cr := by
  refine ⟨h.x, h.dx, h.el, h.code, h.last, h.len, by rw [h.els, List.append_assoc]; rfl, by rw [List.length_append, h.done]; rfl, h.ahead, h.along, fun j x hj htj => ?_, fun j us hj htj => ?_⟩
  · by_cases hji : j < i
    · obtain ⟨tk, e⟩ := hlf j x hji htj
      exact ⟨tk, by rw [List.getElem?_append_left (by rw [h.done]; exact hji)]; exact e⟩
    · have : j = i := by omega
      subst this
      rw [ht] at htj
      obtain rfl := Option.some.inj htj
      obtain ⟨tk, rfl⟩ := hg
      exact ⟨tk, by rw [List.getElem?_append_right (by rw [h.done]; exact Nat.le_refl _), h.done, Nat.sub_self]; rfl⟩
  · by_cases hji : j < i
    · obtain ⟨a, e⟩ := hnd j us hji htj
      exact ⟨a, by rw [List.getElem?_append_left (by rw [h.done]; exact hji)]; exact e⟩
    · have : j = i := by omega
      subst this
      rw [ht] at htj
      obtain rfl := Option.some.inj htj
      obtain ⟨a, dx, rfl, _⟩ := hg
      exact ⟨a, by rw [List.getElem?_append_right (by rw [h.done]; exact Nat.le_refl _), h.done, Nat.sub_self]; rfl⟩
theorem RowAt.fin {w : World} {x dx el : Addr} {C : List UInt8} {ts : List Tree} {p : Nat} {ah : Bool} {i : Nat} {r : RowSt} {dn us : List Value} {c : List (Addr × Obj)} (h : RowAt w x dx el C ts p ah i r dn us c) (hi : i = ts.length) :
    r.idx = (p : Int) + (body ts).length ∧ us = [] ∧ c = [] := by
  subst hi
  cases ah with
  | true =>
    obtain ⟨h1, h2⟩ := h.ahead rfl
    rw [List.drop_length] at h2
    cases h2
    exact ⟨h1, rfl, rfl⟩
  | false =>
    obtain ⟨h1, h2, h3⟩ := h.along rfl
    rw [List.take_length] at h1
    exact ⟨h1, h2, h3⟩
/-- the row when all has been read -/
structure RowFin (r : RowSt) (x dx el : Addr) (e : Int) (dn : List Value) : Prop where
  x : r.x = x
  dx : r.dx = dx
  el : r.el = el
  last : r.last = e
  idx : r.idx = e
  els : r.els = dn
def uM (u : Option Value) (m : Str → Option Value) : Str → Option Value := fun y => if y = Str.ofString "_" then u else m y
def RowJ2 (w : World) (mean : ExcName → Option Value) (mg mb : Str → Option Value) (A : Around) (b : Heap) (outer : List Env) (g : Heap) (x dx el : Addr) (e : Int) (dn : List Value) (gv : Addr) (ng : Nat) (m₀ : Str → Option Value)
    (i : Nat) (g' : Heap) (m' : Str → Option Value) (news' : List (Addr × Obj)) : Prop :=
  i = i ∧ Stand w mean mg mb A b outer g g' ∧ ∃ (r : RowSt) (u : Option Value), news' = (gv, listOf dn.toArray ng) :: rowLed w r ∧ (news'.map (·.1)).Nodup ∧ RowFin r x dx el e dn ∧ m' = uM u m₀
def kOM (u : Option Value) (m : Str → Option Value) : Str → Option Value := fun y => if y = Str.ofString "k" then u else m y
theorem list_stays {A : Around} {b g : Heap} {outer : List Env} {ka : Addr} {vs : List Value} {k : Nat} (B : Below A b outer g) (h : b.get? ka = some (listOf vs.toArray k)) : g.IsList ka vs.toArray := ⟨_, B.stays _ _ h, rfl, k, rfl⟩
def RowJ (w : World) (mean : ExcName → Option Value) (mg mb : Str → Option Value) (A : Around) (b : Heap) (outer : List Env) (g : Heap) (x dx el : Addr) (C : List UInt8) (ts : List Tree) (p : Nat) (ah : Bool) (gv : Addr) (m₀ : Str → Option Value)
    (i : Nat) (g' : Heap) (m' : Str → Option Value) (news' : List (Addr × Obj)) : Prop :=
  Stand w mean mg mb A b outer g g' ∧ ∃ (r1 : RowSt) (dn us : List Value) (c : List (Addr × Obj)) (ng : Nat) (plt : Tok) (got size kO : Option Value) (pl : Int), pl = (p : Int) + (body (ts.take i)).length ∧ news' = (gv, listOf dn.toArray ng) :: (rowLed w r1 ++ c) ∧ (news'.map (·.1)).Nodup ∧
    RowAt w x dx el C ts p ah i r1 dn us c ∧ m' = rowM2 (some (.int pl plt)) (some (.ref gv)) got size kO m₀
set_option maxHeartbeats 8000000 in
theorem law_row {w : World} {mean : ExcName → Option Value} {mg mb : Str → Option Value} {n : Nat} (hn : n ≤ 3) (IH : ∀ m, n = m + 1 → PRow w mean mg mb m) : PRow w mean mg mb n := by
  intro b r ka vs k ts C p first last NN tf tl tc tn hka hts h5 hdeep hC hA hfr hf hl
  obtain ⟨x0, dx, el, kw, t0, t1, t2, t3, t4, t5, t6, t7, C', tc', first', tf', last', tl', idx, ti, len, els, ne⟩ := r
  obtain ⟨q1, q2, q3, q4, q5, q6⟩ := hfr
  dsimp only at q1 q2 q3 q4 q5 q6 ⊢
  subst hf hl
  subst q1 q2 q3 q4 q5 q6
  refine' loud_of (binds := [("row", .ref x0), ("kids", .ref ka), ("first", .int (p : Int) tf), ("last", .int ((p : Int) + (body ts).length) tl), ("code", .bytes C'.toArray tc), ("n", .int NN tn)]) ?_ ?_ ?_ ?_ ?_ ?_ ?_ ?_ ?_
  walk_at "m_enter"
  intro dp un gd outer g L h₁ s Q hdp hu XB TB hbg F N B X T D hnd hret
  have hlen : vs.length = ts.length := hts.1
  have hz : vs.length ≤ sizeLine := by rw [sizeLine_eq]; omega
  have hkl : g.IsList ka vs.toArray := ⟨_, hbg _ _ hka, rfl, k, rfl⟩
  unfold rowLed rowEnts at N
  dsimp only at N
  walk_at "m_steps"
  all_goals (try (exfalso; first | omega | (simp at *; done)))
  refine Paused.on (join (fun s' => ∃ (ah : Bool) (h' : Heap) (tk' : Nat), s' = { s with heap := h', toks := tk' } ∧ Fr g L h' (rowM1 ah (rowM0 x0 ka p (body ts).length C' NN tf tl tc tn)) ∧ News g L h' (rowLed w ⟨x0, dx, el, kw, t0, t1, t2, t3, t4, t5, t6, t7, C', tc', p, tf', p + (body ts).length, tl', p, ti, .none, [], ne⟩) ∧ (ah = true → ts ≠ [])) ?_ ?_)
  · walk_at "m_steps"
    · (rename Fr _ _ _ _ => F9); (rename News _ _ _ _ => N9)
      exact ⟨rfl, _, _, _, rfl, F9, N9, fun h => by
        rintro rfl
        rw [List.length_nil] at hlen
        simp [hlen] at h⟩
    · (rename Fr _ _ _ _ => F9); (rename News _ _ _ _ => N9)
      exact ⟨rfl, _, _, _, rfl, F9, N9, fun h => by simp_all⟩
  rintro s₁ ⟨ah, h', tk', rfl, F1, N1, hah⟩
  clear F N
  unfold rowM1 rowM0 at F1
  have N0 := N1
  unfold rowLed rowEnts at N1
  dsimp only at N1
  walk_at "m_steps"
  refine Paused.on (join (fun s' => ∃ (h' : Heap) (tk' : Nat) (r1 : RowSt) (us : List Value) (c : List (Addr × Obj)), s' = { s with heap := h', toks := tk' } ∧ Fr g L h' (rowM1 ah (rowM0 x0 ka p (body ts).length C' NN tf tl tc tn)) ∧ News g L h' (rowLed w r1 ++ c) ∧
     ((rowLed w r1 ++ c).map (·.1)).Nodup ∧ RowAt w x0 dx el C' ts p ah 0 r1 [] us c) ?_ ?_)
  · cases ah with
    | false =>
      walk_at "m_steps"
      exact ⟨rfl, _, _, _, [], [], rfl, F1, (by rw [List.append_nil]; exact N0), (by rw [List.append_nil]; exact hnd), ⟨rfl, rfl, rfl, rfl, rfl, rfl, rfl, rfl, (fun h => nomatch h), (fun _ => ⟨by simp [body], rfl, rfl⟩), (fun _ _ h => nomatch h), (fun _ _ h => nomatch h)⟩⟩
    | true =>
      have hne := hah rfl
      walk_at "m_steps"
      (rename Fr _ _ _ _ => F9); (rename News _ _ _ _ => N9)
      obtain ⟨i, hi⟩ : ∃ i, ts.length = i + 1 := by
        cases ts with
        | nil => exact absurd rfl hne
        | cons a l => exact ⟨l.length, rfl⟩
      have ei : (vs.length : Int) - 1 = (i : Int) := by omega
      refine Paused.on ?_
      rw [ei]
      refine callQ (fp := rowLed w ⟨x0, dx, el, kw, t0, t1, t2, t3, t4, t5, t6, t7, C', tc', p, tf', p + (body ts).length, tl', p, ti, .none, [], ne⟩) (rest := []) XB TB B D F9 (by rw [List.append_nil]; exact N9) (by rw [List.append_nil]; exact hnd) rfl rfl rfl rfl ?_ ?_ (fun b' _ _ _ => getitem_more (ts := ts) hC rfl ?_ hA hn hdeep ?_ hne ?_) ?_
      · show dp + 1 + 16 < recursionLimit; omega
      · show un + 3 + 1 + 200 < cLine; omega
      · exact Int.le_refl _
      · show 0 + ts.length = i + 1; omega
      · omega
      rintro v led' h₂ tk₂ F2 N2 hnd2 ⟨r1, us, c, rfl, hrr, hgot, hv⟩
      clear F9 N9
      obtain ⟨y0, ydx, yel, ykw, y1, y2, y3, y4, y5, y6, y7, y8, yC, ytc, yfirst, ytf, ylast, ytl, yidx, yti, ylen, yels, yne⟩ := r1
      obtain ⟨z1, z2, z3, z4, z5, z6, z7, z8, z9⟩ := hrr
      dsimp only at z1 z2 z3 z4 z5 z6 z7 z8 z9 hgot hv
      rw [List.nil_append] at z9
      subst z1 z2 z3 z4 z5 z6 z7 z8 z9
      rw [List.append_nil] at N2 hnd2
      have N3 := N2
      unfold rowLed rowEnts at N3
      dsimp only [List.cons_append, List.nil_append] at N3
      have hvi : vs[i]? = some vs[i] := List.getElem?_eq_getElem (by omega)
      have hti : ts[i]? = some ts[i] := List.getElem?_eq_getElem (by omega)
      walk_at "m_steps"
      refine place_neg F2 hkl (x := vs[i]) (by omega) (by omega) hz (by rw [show ((-1 : Int) + vs.length).toNat = i by omega]; exact hvi) ?_
      walk_at "m_steps"
      refine Paused.on (useP XB TB B D F2 N2 rfl rfl rfl rfl ?_ ?_ (fun b' hb1 hb2 hb3 => same_any (hdeep _ (List.getElem_mem _)) ((hts.2 i _ _ hvi hti).mono fun a o e => hb2 a o e) ((hgot.at hv hti).mono fun a o hm => hb3 _ (List.mem_append_right _ hm))) ?_)
      · show dp + 1 + 1 < recursionLimit; omega
      · show un + 3 + 10 < cLine; omega
      rintro _ h₃ tk₃ F3 N3' rfl
      walk_at "m_steps"
      · exact absurd rfl (by assumption)
      · exact ⟨rfl, _, _, _, _, _, rfl, F3, N3', hnd2, ⟨rfl, rfl, rfl, rfl, rfl, rfl, rfl, rfl, (fun _ => ⟨rfl, by simpa [body] using hgot⟩), (fun h => nomatch h), (fun _ _ h => nomatch h), (fun _ _ h => nomatch h)⟩⟩
  rintro s₁ ⟨h', tk', r1, us, c, rfl, F2, N2, hnd2, hat⟩
  clear F1 N1 N0
  unfold rowM1 rowM0 at F2
  walk_at "m_steps"
  refine Paused.on (For_loop ?_)
  walk_at "m_steps"
  refine Paused.on ?_
  (rename Fr _ _ _ _ => F3); (rename News _ _ _ _ => N3); (rename IsRange _ _ _ _ _ _ _ _ => hr)
  (rename ∀ (p : Addr × Obj), p ∈ _ → p.1 < _ => hgv)
  rename_i gv _ _ _ _ _ _ _ _ _ _ _ _
  have F4 := Fr_as (m' := rowM2 (some (.int (p : Int) tf)) (some (.ref gv)) none none none (rowM1 ah (rowM0 x0 ka p (body ts).length C' NN tf tl tc tn))) F3 (by walk_at "m_map")
  have N4 : News g L _ ((gv, listOf ([] : List Value).toArray 0) :: (rowLed w r1 ++ c)) := N3
  have hnd3 : (((gv, listOf ([] : List Value).toArray 0) :: (rowLed w r1 ++ c)).map (·.1)).Nodup := cons_nodup (fun q hq => Nat.ne_of_lt (hgv q hq)) hnd2
  have hJ0 : RowJ w mean mg mb (arA dp un gd outer) b outer g x0 dx el C' ts p ah gv (rowM1 ah (rowM0 x0 ka p (body ts).length C' NN tf tl tc tn)) 0 g (rowM2 (some (.int (p : Int) tf)) (some (.ref gv)) none none none (rowM1 ah (rowM0 x0 ka p (body ts).length C' NN tf tl tc tn))) ((gv, listOf ([] : List Value).toArray 0) :: (rowLed w r1 ++ c)) :=
    ⟨⟨KtsTurn.refl, B, X, T, D⟩, r1, [], us, c, 0, tf, none, none, none, p, by simp [body], rfl, hnd3, hat, rfl⟩
  clear F3 N3 hgv hnd2 hnd3 hat
  refine loop_range (L := L) (n := vs.length) rfl rfl rfl rfl (RowJ w mean mg mb (arA dp un gd outer) b outer g x0 dx el C' ts p ah gv (rowM1 ah (rowM0 x0 ka p (body ts).length C' NN tf tl tc tn))) hr (range_up (by omega)).1 (range_up (by omega)).2 F4 N4 hJ0 ?turn ?done
  case turn =>
    clear F4 N4 hr hJ0
    rintro i t g' m' news' h' tk' I o hi ⟨St, r1, dn, us, c, ng, plt, got, size, kO, pl, hpl, rfl, hnd1, hat, rfl⟩ F1 N1 hI
    obtain ⟨TK, B', X', T', D'⟩ := St
    unfold rowM2 rowM1 rowM0 at F1
    walk_at "m_steps"
    have hit : i < ts.length := by omega
    have hvi : vs[i]? = some vs[i] := List.getElem?_eq_getElem hi
    have hti : ts[i]? = some ts[i] := List.getElem?_eq_getElem hit
    have hdi : Deep n ts[i] := hdeep _ (List.getElem_mem hit)
    have hbt := body_take hit
    have hbd : body ts = body (ts.take i) ++ (code ts[i] ++ body (ts.drop (i + 1))) := by
      conv => lhs; rw [← List.take_append_drop i ts, body_append, List.drop_eq_getElem_cons hit, body]
    have hbl : (body ts).length = (body (ts.take i)).length + ((code ts[i]).length + (body (ts.drop (i + 1))).length) := by rw [hbd, List.length_append, List.length_append]
    have hbl1 : (body (ts.take (i + 1))).length = (body (ts.take i)).length + (code ts[i]).length := by rw [hbt, List.length_append]
    have hAi : AtCode C' (p + (body (ts.take i)).length) (code ts[i]) := by
      have h := hA
      rw [hbd] at h
      exact h.right.left
    have hcp := code_pos ts[i]
    have hndI := cons_nodup (p := (I, o)) hI hnd1
    rw [show (0 : Int) + (i : Int) * 1 = (i : Int) by omega] at F1
    obtain ⟨x1, dx1, el1, kw1, s0, s1, s2, s3, s4, s5, s6, s7, C1, tc1, f1, tf1, l1, tl1, id1, ti1, len1, els1, ne1⟩ := r1
    obtain ⟨z1, z2, z3, z4, z5, z6, hels, hdn, hah1, hal1, hlf, hnd⟩ := hat
    dsimp only at z1 z2 z3 z4 z5 z6 hels hah1 hal1
    subst x1 dx1 el1 C1 l1 len1
    have N2 := N1
    unfold rowLed rowEnts at N1
    dsimp only [List.cons_append, List.nil_append] at N1
    refine Paused.on (joinV (fun v s' => ∃ (h₂ : Heap) (tk₂ : Nat) (r2 : RowSt) (us2 : List Value) (cv cr : List (Addr × Obj)), s' = { s with heap := h₂, toks := tk₂ } ∧ Fr g' L h₂ (kM i t (rowM2 (some (.int pl plt)) (some (.ref gv)) got size kO (rowM1 ah (rowM0 x0 ka p (body ts).length C' NN tf tl tc tn)))) ∧
      News g' L h₂ ((I, o) :: (gv, listOf dn.toArray ng) :: (rowLed w r2 ++ (cv ++ cr))) ∧ (((I, o) :: (gv, listOf dn.toArray ng) :: (rowLed w r2 ++ (cv ++ cr))).map (·.1)).Nodup ∧ Got w C' (p + (body (ts.take i)).length) [v] [ts[i]] cv ∧ RowGot w x0 dx el C' ts p ah i r2 dn v us2 cr) ?_ ?_)
    · cases ah with
      | true =>
        obtain ⟨hid, hgt⟩ := hah1 rfl
        subst hid
        clear hah1 hal1
        rw [List.drop_eq_getElem_cons hit] at hgt
        obtain ⟨v, us2, rfl⟩ : ∃ v us2, us = v :: us2 := by
          have := hgt.lengths
          cases us with
          | nil => simp at this; omega
          | cons v us2 => exact ⟨v, us2, rfl⟩
        obtain ⟨cv, cr, rfl, hg1, hg2⟩ := hgt.cut
        walk_at "m_steps"
        have hv : els1[i]? = some v := by rw [hels, List.getElem?_append_right (by omega), hdn, Nat.sub_self]; rfl
        refine Paused.on (callQ (fp := rowLed w ⟨x0, dx, el, kw1, s0, s1, s2, s3, s4, s5, s6, s7, C', tc1, f1, tf1, (p : Int) + (body ts).length, tl1, (p : Int) + (body ts).length, ti1, .none, els1, ne1⟩) (rest := (I, o) :: (gv, listOf dn.toArray ng) :: (cv ++ cr)) XB TB B' D' F1 (News.perm N2 pull2) (nodup_perm hndI pull2) rfl rfl rfl rfl ?_ ?_ (fun b' _ _ _ => getitem_have hv ?_) ?_)
        · show dp + 1 + 8 < recursionLimit; omega
        · show un + 3 + 1 + 80 < cLine; omega
        · show els1.length ≤ sizeLine
          have := hg2.lengths
          rw [List.length_drop] at this
          rw [sizeLine_eq, hels, List.length_append, List.length_cons]; omega
        rintro _ led' h₂ tk₂ F5 N5 hnd5 ⟨rfl, rfl⟩
        walk_at "m_steps"
        exact ⟨h₂, _, _, us2, cv, cr, rfl, F5, News.perm N5 pull2.symm, nodup_perm hnd5 pull2.symm, hg1, ⟨rfl, rfl, rfl, rfl, rfl, rfl, hels, hdn, (fun _ => ⟨rfl, by rw [hbl1, ← Nat.add_assoc]; exact hg2⟩), (fun h => nomatch h)⟩⟩
      | false =>
        obtain ⟨hid, hus, hcc⟩ := hal1 rfl
        subst hid hus hcc
        rw [List.append_nil] at hels
        subst els1
        clear hah1 hal1
        walk_at "m_steps"
        · refine Paused.on (callQ (fp := rowLed w ⟨x0, dx, el, kw1, s0, s1, s2, s3, s4, s5, s6, s7, C', tc1, f1, tf1, (p : Int) + (body ts).length, tl1, (p : Int) + (body (ts.take i)).length, ti1, .none, dn, ne1⟩) (rest := [(I, o), (gv, listOf dn.toArray ng)]) XB TB B' D' F1 (News.perm N2 (by rw [List.append_nil]; exact pull2)) (nodup_perm hndI (by rw [List.append_nil]; exact pull2)) rfl rfl rfl rfl ?_ ?_ (fun b' _ _ _ => getitem_one (p := p + (body (ts.take i)).length) hC (Int.natCast_add _ _).symm ?_ hAi hn hdi hdn (by omega)) ?_)
          · show dp + 1 + 16 < recursionLimit; omega
          · show un + 3 + 1 + 200 < cLine; omega
          · show ((p + (body (ts.take i)).length : Nat) : Int) + (code ts[i]).length ≤ (p : Int) + (body ts).length
            omega
          rintro v led' h₂ tk₂ F5 N5 hnd5 ⟨r2, c2, rfl, hr2, hg2⟩
          walk_at "m_steps"
          exact ⟨h₂, _, r2, [], c2, [], rfl, F5, (by rw [← List.append_assoc]; exact News.perm N5 pull2.symm), (by rw [← List.append_assoc]; exact nodup_perm hnd5 pull2.symm), hg2, ⟨hr2.x, hr2.dx, hr2.el, hr2.code, hr2.last, hr2.len, hr2.els, hdn, (fun h => nomatch h), (fun _ => ⟨hr2.idx.trans (by rw [hbl1, Int.natCast_add, Int.natCast_add, Int.add_assoc]), rfl, rfl⟩)⟩⟩
        · refine Paused.on ?_
          dsimp only [List.cons_append, List.nil_append]
          refine callQ (fp := rowLed w ⟨x0, dx, el, kw1, s0, s1, s2, s3, s4, s5, s6, s7, C', tc1, f1, tf1, (p : Int) + (body ts).length, tl1, (p : Int) + (body (ts.take i)).length, ti1, .none, dn, ne1⟩) (rest := [(I, o), (gv, listOf dn.toArray ng)]) XB TB B' D' F1 (News.perm N2 (by rw [List.append_nil]; exact pull2)) (nodup_perm hndI (by rw [List.append_nil]; exact pull2)) rfl rfl rfl rfl ?_ ?_ (fun b' _ _ _ => next_any (p := p + (body (ts.take i)).length) hC (Int.natCast_add _ _).symm ?_ hAi hn hdi ?_) ?_
          · show dp + 1 + 12 < recursionLimit; omega
          · show un + 3 + 120 < cLine; omega
          · show ((p + (body (ts.take i)).length : Nat) : Int) < (p : Int) + (body ts).length
            omega
          · show dn.length ≤ sizeLine
            rw [sizeLine_eq]; omega
          rintro v led' h₂ tk₂ F5 N5 hnd5 ⟨r2, c2, rfl, hr2, hg2⟩
          walk_at "m_steps"
          exact ⟨h₂, _, r2, [], c2, [], rfl, F5, (by rw [← List.append_assoc]; exact News.perm N5 pull2.symm), (by rw [← List.append_assoc]; exact nodup_perm hnd5 pull2.symm), hg2, ⟨hr2.x, hr2.dx, hr2.el, hr2.code, hr2.last, hr2.len, hr2.els, hdn, (fun h => nomatch h), (fun _ => ⟨hr2.idx.trans (by rw [hbl1, Int.natCast_add, Int.natCast_add, Int.add_assoc]), rfl, rfl⟩)⟩⟩
    rintro v s₂ ⟨h₂, tk₂, r2, us2, cv, cr, rfl, F3, N3, hnd3, hg1, hrg⟩
    clear F1 N1 N2 hnd1 hndI hI hah1 hal1 hels
    obtain ⟨x2, dx2, el2, kw2, q0, q1, q2, q3, q4, q5, q6, q7, C2, tc2, f2, tf2, l2, tl2, id2, ti2, len2, els2, ne2⟩ := r2
    have hrg0 := hrg
    obtain ⟨z1, z2, z3, z4, z5, z6, hels, hdn2, hah2, hal2⟩ := hrg
    dsimp only at z1 z2 z3 z4 z5 z6 hels hah2 hal2
    subst x2 dx2 el2 C2 l2 len2
    have hz5 : dn.length ≤ sizeLine := by rw [sizeLine_eq]; omega
    have hkl' : g'.IsList ka vs.toArray := ⟨_, B'.stays _ _ hka, rfl, k, rfl⟩
    have hP : PlaceAt vs (i : Int) vs[i] := ⟨i, rfl, by rw [sizeLine_eq] at hz; omega, hvi⟩
    have hapart : ∀ q ∈ (gv, listOf dn.toArray ng) :: (rowLed w ⟨x0, dx, el, kw2, q0, q1, q2, q3, q4, q5, q6, q7, C', tc2, f2, tf2, (p : Int) + (body ts).length, tl2, id2, ti2, .none, els2, ne2⟩ ++ (cv ++ cr)), q.1 ≠ I := fun q hq e => (List.nodup_cons.mp hnd3).1 (List.mem_map.mpr ⟨q, hq, e⟩)
    unfold kM rowM2 rowM1 rowM0 at F3
    have hIgv : @Ne Nat I gv := fun e => hapart _ (.head _) e.symm
    have hgvr : ∀ q ∈ rowLed w ⟨x0, dx, el, kw2, q0, q1, q2, q3, q4, q5, q6, q7, C', tc2, f2, tf2, (p : Int) + (body ts).length, tl2, id2, ti2, .none, els2, ne2⟩ ++ (cv ++ cr), q.1 ≠ gv := fun q hq e => (List.nodup_cons.mp (List.nodup_cons.mp hnd3).2).1 (List.mem_map.mpr ⟨q, hq, e⟩)
    walk_at "m_steps"
    (rename Fr _ _ _ _ => F4); (rename News _ _ _ _ => N4)
    have hnd4 : (((I, o) :: (gv, listOf (dn ++ [v]).toArray (ng + 1)) :: (rowLed w ⟨x0, dx, el, kw2, q0, q1, q2, q3, q4, q5, q6, q7, C', tc2, f2, tf2, (p : Int) + (body ts).length, tl2, id2, ti2, .none, els2, ne2⟩ ++ (cv ++ cr))).map (·.1)).Nodup := by
      rw [List.map_cons, List.map_cons] at hnd3 ⊢
      exact hnd3
    clear hnd3
    refine Paused.on (place_g F4 hkl' hP ?_)
    walk_at "m_steps"
    refine Paused.on (useP XB TB B' D' F4 N4 rfl rfl rfl rfl ?_ ?_ (fun b' hb1 hb2 hb3 => code_all n hn b' vs[i] ts[i] hdi ((hts.2 i _ _ hvi hti).mono fun a o e => hb2 a o e)) ?_)
    · show dp + 1 + (2 * n + 4) < recursionLimit; omega
    · show un + 3 + (40 * n + 60) < cLine; omega
    rintro _ h₄ tk₄ F5 N5 ⟨tk5, rfl⟩
    have hcz : (code ts[i]).length ≤ 16777216 := by have := hA.bound; omega
    clear F4 N4
    walk_at "m_steps"
    refine Paused.on (joinP (fun v => ∃ tk, v = .int id2 tk) ?_ ?_)
    · cases ah with
      | true =>
        walk_at "m_steps"
        exact ⟨⟨tl, congrArg (Value.int · tl) (hah2 rfl).1.symm⟩, _, rfl⟩
      | false =>
        walk_at "m_steps"
        exact ⟨⟨_, congrArg (Value.int · _) (by have := (hal2 rfl).1; omega)⟩, _, rfl⟩
    rintro _ tk6 ⟨tk7, rfl⟩
    walk_at "m_steps"
    · exact absurd rfl (by assumption)
    (rename Fr _ _ _ _ => F6); (rename News _ _ _ _ => N6)
    refine Paused.on (place_g F6 hkl' hP ?_)
    walk_at "m_steps"
    refine Paused.on (useP XB TB B' D' F6 N6 rfl rfl rfl rfl ?_ ?_ (fun b' hb1 hb2 hb3 => same_any hdi ((hts.2 i _ _ hvi hti).mono fun a o e => hb2 a o e) (hg1.one.mono fun a o hm => hb3 _ (.tail _ (.tail _ (List.mem_append_right _ (List.mem_append_left _ hm)))))) ?_)
    · show dp + 1 + 1 < recursionLimit; omega
    · show un + 3 + 10 < cLine; omega
    rintro _ h₆ tk₈ F7 N7 rfl
    clear F6 N6
    walk_at "m_steps"
    have hG := hg1.one
    rcases (hts.2 i _ _ hvi hti).split with ⟨x, tkx, ev, et⟩ | ⟨a, ws, nw, us, ev, et, ha, hws⟩
    · rw [ev] at hP
      refine Paused.on (place_g F7 hkl' hP ?_)
      walk_at "m_steps"
      (rename Fr _ _ _ _ => F8); (rename News _ _ _ _ => N8)
      have hnd5 := nodup_sub mid_sub hnd4
      exact ⟨g', _, _, _, _, rfl, Fr_as (m' := rowM2 (some (.int _ _)) (some (.ref gv)) (some v) size (some (.int (i : Int) t)) (rowM1 ah (rowM0 x0 ka p (body ts).length C' NN tf tl tc tn))) F8 (by walk_at "m_map"), News.sub N8 mid_sub.subset, nodup_head hnd5,
        ⟨TK, B', X', T', D'⟩, _, dn ++ [v], us2, cr, ng + 1, _, _, _, _, _, (by rw [hpl, hbl1]; omega), rfl, (List.nodup_cons.mp hnd5).2, hrg0.at hlf hnd hti hG, rfl⟩
    · rw [ev] at hP
      have hal : g'.IsList a ws.toArray := ⟨_, B'.stays _ _ ha, rfl, nw, rfl⟩
      rw [et] at hdi hbl1 hAi
      obtain ⟨mm, rfl⟩ : ∃ mm, n = mm + 1 := by
        cases n with
        | zero => exact hdi.elim
        | succ mm => exact ⟨mm, rfl⟩
      have hbu : (body us).length ≤ 38895 := body_bound (n := mm) (by omega) hdi.1 hdi.2
      refine Paused.on (place_g F7 hkl' hP ?_)
      walk_at "m_steps"
      (rename Fr _ _ _ _ => F8)
      refine Paused.on (place_g F8 hkl' hP ?_)
      walk_at "m_steps"
      (rename Fr _ _ _ _ => F9); (rename News _ _ _ _ => N9)
      refine Paused.on (useP XB TB B' D' F9 N9 rfl rfl rfl rfl ?_ ?_ (fun b' hb1 hb2 hb3 => body_all mm (by omega) b' a ws nw us (hb2 _ _ ha) (hws.mono hb2) hdi.1 hdi.2) ?_)
      · show dp + 1 + (2 * mm + 5) < recursionLimit; omega
      · show un + 3 + (40 * mm + 80) < cLine; omega
      rintro _ h₇ tk₉ F10 N10 ⟨tk10, rfl⟩
      clear F9 N9
      walk_at "m_steps"
      (rename Fr _ _ _ _ => F11)
      refine Paused.on (place_g F11 hkl' hP ?_)
      walk_at "m_steps"
      rw [et] at hg1
      obtain ⟨s0', rc, ev2, rfl, hfrc, hAc, hsc⟩ := hg1.node_inv
      have e1 : pl + ((code ts[i]).length : Int) - ((body us).length : Int) = (s0' : Int) := by rw [et]; omega
      have e2 : pl + ((code ts[i]).length : Int) = ((p + (body (ts.take i)).length : Nat) : Int) + ((code (.node us)).length : Int) := by rw [et]; omega
      have e3 : ((p + (body (ts.take i)).length : Nat) : Int) + ((code (.node us)).length : Int) = (s0' : Int) + ((body us).length : Int) := by omega
      (rename Fr _ _ _ _ => F12); (rename News _ _ _ _ => N12)
      refine Paused.on ?_
      rw [e1, e2]
      rw [ev2]
      refine callL (fp := rowLed w rc) (rest := (I, o) :: (gv, listOf (dn ++ [v]).toArray (ng + 1)) :: (rowLed w ⟨x0, dx, el, kw2, q0, q1, q2, q3, q4, q5, q6, q7, C', tc2, f2, tf2, (p : Int) + (body ts).length, tl2, id2, ti2, .none, els2, ne2⟩ ++ cr)) XB TB B' D' F12 (News.perm N12 pull3) (nodup_perm hnd4 pull3) rfl rfl rfl rfl ?_ ?_
        (fun b' hb1 hb2 hb3 => IH mm rfl b' rc a ws nw us C' s0' _ _ _ _ _ _ _ (hb2 _ _ ha) (hws.mono hb2) hdi.1 hdi.2 hC hAc hfrc rfl e3) ?_
      · show dp + 1 + (mm + 30) < recursionLimit; omega
      · show un + 3 + (3 * mm + 300) < cLine; omega
      rintro _ led' h₈ tk₁₁ g₂ TK₂ F13 N13 B₂ X₂ T₂ D₂ hnd6 ⟨rfl, rfl⟩
      rw [List.nil_append] at hnd6
      have N14 : News g₂ L h₈ ((I, o) :: (gv, listOf (dn ++ [v]).toArray (ng + 1)) :: (rowLed w ⟨x0, dx, el, kw2, q0, q1, q2, q3, q4, q5, q6, q7, C', tc2, f2, tf2, (p : Int) + (body ts).length, tl2, id2, ti2, .none, els2, ne2⟩ ++ cr)) := N13
      clear F12 N12 N13
      walk_at "m_steps"
      exact ⟨g₂, _, _, _, _, rfl, Fr_as (m' := rowM2 (some (.int _ _)) (some (.ref gv)) (some v) (some (.int _ _)) (some (.int (i : Int) t)) (rowM1 ah (rowM0 x0 ka p (body ts).length C' NN tf tl tc tn))) F13 (by walk_at "m_map"), N14, nodup_head hnd6,
        ⟨TK.trans TK₂, B₂, X₂, T₂, D₂⟩, _, dn ++ [v], us2, cr, ng + 1, _, _, _, _, _, (by rw [hpl, et, hbl1]; omega), rfl, (List.nodup_cons.mp hnd6).2, hrg0.at hlf hnd hti hG, rfl⟩
  case done =>
    clear F4 N4 hr hJ0
    rintro g' m' news' h' tk' ⟨St, r1, dn, us, c, ng, plt, got, size, kO, pl, hpl, rfl, hnd1, hat, rfl⟩ F1 N1
    obtain ⟨TK, B', X', T', D'⟩ := St
    obtain ⟨hid, rfl, rfl⟩ := hat.fin hlen
    rw [List.append_nil] at N1 hnd1
    rw [hlen, List.take_length] at hpl
    have hfin : RowFin r1 x0 dx el ((p : Int) + (body ts).length) dn := ⟨hat.x, hat.dx, hat.el, hat.last, hid, by rw [hat.els, List.append_nil]⟩
    have hlf := hat.leafs
    have hnd := hat.nodes
    have hdn := hat.done
    clear hat hid
    subst hpl
    unfold rowM2 rowM1 rowM0 at F1
    walk_at "m_steps"
    · exact absurd rfl (by assumption)
    refine Paused.on (For_loop ?_)
    walk_at "m_steps"
    refine Paused.on ?_
    (rename Fr _ _ _ _ => F3); (rename News _ _ _ _ => N3); (rename IsRange _ _ _ _ _ _ _ _ => hr)
    have F4 := Fr_as (m' := uM none (rowM2 (some (.int ((p : Int) + (body ts).length) plt)) (some (.ref gv)) got size kO (rowM1 ah (rowM0 x0 ka p (body ts).length C' NN tf tl tc tn)))) F3 (by
      funext y
      unfold uM
      by_cases h0 : y = Str.ofString "_"
      · subst h0; rfl
      · rw [if_neg h0]; rfl)
    have hJ0 : RowJ2 w mean mg mb (arA dp un gd outer) b outer g x0 dx el ((p : Int) + (body ts).length) dn gv ng (rowM2 (some (.int ((p : Int) + (body ts).length) plt)) (some (.ref gv)) got size kO (rowM1 ah (rowM0 x0 ka p (body ts).length C' NN tf tl tc tn))) 0 g'
      (uM none (rowM2 (some (.int ((p : Int) + (body ts).length) plt)) (some (.ref gv)) got size kO (rowM1 ah (rowM0 x0 ka p (body ts).length C' NN tf tl tc tn)))) ((gv, listOf dn.toArray ng) :: rowLed w r1) :=
      ⟨rfl, ⟨TK, B', X', T', D'⟩, r1, none, rfl, hnd1, hfin, rfl⟩
    clear F3 hnd1 hfin
    refine loop_range (L := L) (n := 2) rfl rfl rfl rfl (RowJ2 w mean mg mb (arA dp un gd outer) b outer g x0 dx el ((p : Int) + (body ts).length) dn gv ng (rowM2 (some (.int ((p : Int) + (body ts).length) plt)) (some (.ref gv)) got size kO (rowM1 ah (rowM0 x0 ka p (body ts).length C' NN tf tl tc tn)))) hr (range_up (n := 2) (by omega)).1 (range_up (n := 2) (by omega)).2 F4 N3 hJ0 ?turn ?done
    case turn =>
      clear F4 N3 hr hJ0 TK B' X' T' D'
      rintro i t g' m' news' h' tk' I o hi ⟨-, St, r2, u, rfl, hnd1, hfin, rfl⟩ F1 N1 hI
      obtain ⟨TK, B', X', T', D'⟩ := St
      have hndI := cons_nodup (p := (I, o)) hI hnd1
      obtain ⟨x2, dx2, el2, kw2, q0, q1, q2, q3, q4, q5, q6, q7, C2, tc2, f2, tf2, l2, tl2, id2, ti2, len2, els2, ne2⟩ := r2
      obtain ⟨z1, z2, z3, z4, z5, z6⟩ := hfin
      dsimp only at z1 z2 z3 z4 z5 z6
      subst x2 dx2 el2 l2 id2 els2
      have hz5 : dn.length ≤ sizeLine := by rw [sizeLine_eq]; omega
      unfold uM rowM2 rowM1 rowM0 at F1
      walk_at "m_steps"
      refine Paused.on ?_
      dsimp only [List.cons_append, List.nil_append]
      refine callR (fp := rowLed w ⟨x0, dx, el, kw2, q0, q1, q2, q3, q4, q5, q6, q7, C2, tc2, f2, tf2, (p : Int) + (body ts).length, tl2, (p : Int) + (body ts).length, ti2, len2, dn, ne2⟩) (rest := [(I, o), (gv, listOf dn.toArray ng)]) XB TB B' D' F1 (News.perm N1 pull2') (nodup_perm hndI pull2') rfl rfl rfl rfl ?_ ?_ (fun b' _ _ _ => next_stop (r := ⟨x0, dx, el, kw2, q0, q1, q2, q3, q4, q5, q6, q7, C2, tc2, f2, tf2, (p : Int) + (body ts).length, tl2, (p : Int) + (body ts).length, ti2, len2, dn, ne2⟩) rfl hz5) ?_
      · show dp + 1 + 4 < recursionLimit; omega
      · show un + 3 + 40 < cLine; omega
      rintro e led' h₂ tk₂ G R FG U hnd2 ⟨r3, rfl, hr3⟩ -
      clear F1 N1 hndI hnd1 hI
      have R' := RaisedSN.perm R pull2'.symm
      clear R
      have hnd3 := nodup_perm hnd2 pull2'.symm
      clear hnd2
      obtain ⟨x3, dx3, el3, kw3, w0, w1, w2, w3, w4, w5, w6, w7, C3, tc3, f3, tf3, l3, tl3, id3, ti3, len3, els3, ne3⟩ := r3
      obtain ⟨rx, rdx, rel, rc, rf, rl, ri, re, tq, rle⟩ := hr3
      dsimp only at rx rdx rel rc rf rl ri re rle
      subst x3 dx3 el3 C3 f3 l3 id3 els3 len3
      walk_at "m_steps"
      (rename Fr _ _ _ _ => F2); (rename News _ _ _ _ => N2); (rename Below _ _ _ _ => B2); (rename KtsDicts _ _ => D2); (rename KtsTurn _ _ _ => T2)
      refine Paused.on ?_
      refine callL (fp := rowLed w ⟨x0, dx, el, kw3, w0, w1, w2, w3, w4, w5, w6, w7, C2, tc3, f2, tf3, (p : Int) + (body ts).length, tl3, (p : Int) + (body ts).length, ti3, .int (dn.length : Int) tq, dn, ne3⟩) (rest := [(I, o), (gv, listOf dn.toArray ng)]) XB TB B2 D2 F2 (News.perm N2 pull2') (nodup_perm hnd3 pull2') rfl rfl rfl rfl ?_ ?_ (fun b' _ _ _ => len_end (r := ⟨x0, dx, el, kw3, w0, w1, w2, w3, w4, w5, w6, w7, C2, tc3, f2, tf3, (p : Int) + (body ts).length, tl3, (p : Int) + (body ts).length, ti3, .int (dn.length : Int) tq, dn, ne3⟩) rfl rfl hz5) ?_
      · show dp + 1 + 8 < recursionLimit; omega
      · show un + 3 + 1 + 80 < cLine; omega
      rintro _ led' h₃ tk₃ g₃ T3 F3 N3 B3 X3 TT3 D3 hnd4 ⟨⟨tq2, rfl⟩, r4, rfl, hr4⟩
      have hnd5 := nodup_perm hnd4 pull2'.symm
      have N4 := News.perm N3 pull2'.symm
      clear N3 hnd4 N2 F2 hnd3
      obtain ⟨x4, dx4, el4, kw4, v0, v1, v2, v3, v4, v5, v6, v7, C4, tc4, f4, tf4, l4, tl4, id4, ti4, len4, els4, ne4⟩ := r4
      obtain ⟨rx, rdx, rel, rc, rf, rl, ri, re, tq3, rle⟩ := hr4
      dsimp only at rx rdx rel rc rf rl ri re rle
      subst x4 dx4 el4 C4 f4 l4 id4 els4 len4
      have hkl' : g₃.IsList ka vs.toArray := ⟨_, B3.stays _ _ hka, rfl, k, rfl⟩
      dsimp only [PySem.W.LenBack]
      refine ⟨⟨by omega, by rw [sizeLine_eq] at hz5; omega⟩, ?_⟩
      walk_at "m_steps"
      · exfalso; omega
      · exact absurd rfl (by assumption)
      (rename Fr _ _ _ _ => F9); (rename News _ _ _ _ => N9)
      exact ⟨g₃, _, _, _, _, rfl, Fr_as (m' := uM (some (.int _ t)) (rowM2 (some (.int ((p : Int) + (body ts).length) plt)) (some (.ref gv)) got size kO (rowM1 ah (rowM0 x0 ka p (body ts).length C' NN tf tl tc tn)))) F9 (by
          funext y
          unfold uM
          by_cases h0 : y = Str.ofString "_"
          · subst h0; rfl
          · simp only [if_neg h0]; rfl), N9, nodup_head hnd5,
        rfl, ⟨(by first | exact T2.trans T3 | exact TK.trans (T2.trans T3)), B3, X3, TT3, D3⟩, _, _, rfl, (List.nodup_cons.mp hnd5).2, ⟨rfl, rfl, rfl, rfl, rfl, rfl⟩, rfl⟩
    case done =>
      clear F4 N3 hr hJ0 TK B' X' T' D'
      rintro g' m' news' h' tk' ⟨-, St, r2, u, rfl, hnd1, hfin, rfl⟩ F1 N1
      obtain ⟨TK, B', X', T', D'⟩ := St
      obtain ⟨x2, dx2, el2, kw2, q0, q1, q2, q3, q4, q5, q6, q7, C2, tc2, f2, tf2, l2, tl2, id2, ti2, len2, els2, ne2⟩ := r2
      obtain ⟨z1, z2, z3, z4, z5, z6⟩ := hfin
      dsimp only at z1 z2 z3 z4 z5 z6
      subst x2 dx2 el2 l2 id2 els2
      have hz5 : dn.length ≤ sizeLine := by rw [sizeLine_eq]; omega
      have hkl' : g'.IsList ka vs.toArray := ⟨_, B'.stays _ _ hka, rfl, k, rfl⟩
      unfold uM rowM2 rowM1 rowM0 at F1
      walk_at "m_steps"
      refine Paused.on ?_
      refine callR (fp := rowLed w ⟨x0, dx, el, kw2, q0, q1, q2, q3, q4, q5, q6, q7, C2, tc2, f2, tf2, (p : Int) + (body ts).length, tl2, (p : Int) + (body ts).length, ti2, len2, dn, ne2⟩) (rest := [(gv, listOf dn.toArray ng)]) XB TB B' D' F1 (News.perm N1 pull1') (nodup_perm hnd1 pull1') rfl rfl rfl rfl ?_ ?_ (fun b' _ _ _ => getitem_over (r := ⟨x0, dx, el, kw2, q0, q1, q2, q3, q4, q5, q6, q7, C2, tc2, f2, tf2, (p : Int) + (body ts).length, tl2, (p : Int) + (body ts).length, ti2, len2, dn, ne2⟩) (i := vs.length) rfl hdn (by omega)) ?_
      · show dp + 1 + 8 < recursionLimit; omega
      · show un + 3 + 1 + 80 < cLine; omega
      rintro e led' h₂ tk₂ G R FG U hnd2 ⟨r3, rfl, hr3⟩ -
      clear F1 N1 hnd1
      have R' := RaisedSN.perm R pull1'.symm
      clear R
      have hnd3 := nodup_perm hnd2 pull1'.symm
      clear hnd2
      obtain ⟨x3, dx3, el3, kw3, w0, w1, w2, w3, w4, w5, w6, w7, C3, tc3, f3, tf3, l3, tl3, id3, ti3, len3, els3, ne3⟩ := r3
      obtain ⟨rx, rdx, rel, rc, rf, rl, ri, re, tq, rle⟩ := hr3
      dsimp only at rx rdx rel rc rf rl ri re rle
      subst x3 dx3 el3 C3 f3 l3 id3 els3 len3
      walk_at "m_steps"
      (rename Below _ _ _ _ => B3); (rename KtsDicts _ _ => D3); (rename KtsTurn _ _ _ => T3)
      have hkl3 := list_stays B3 hka
      refine Paused.on (For_loop ?_)
      walk_at "m_steps"
      refine Paused.on ?_
      (rename Fr _ _ _ _ => F3); (rename News _ _ _ _ => N3); (rename IsRange _ _ _ _ _ _ _ _ => hr)
      have F4 := Fr_as (m' := kOM kO (uM u (rowM2 (some (.int ((p : Int) + (body ts).length) plt)) (some (.ref gv)) got size kO (rowM1 ah (rowM0 x0 ka p (body ts).length C' NN tf tl tc tn))))) F3 (by
        funext y
        unfold kOM uM rowM2
        by_cases h0 : y = Str.ofString "k"
        · subst h0; rfl
        · simp only [if_neg h0]; rfl)
      refine loop_range (L := L) (n := vs.length) rfl rfl rfl rfl (fun _ g' m' news' => g' = _ ∧ news' = (gv, listOf dn.toArray ng) :: rowLed w ⟨x0, dx, el, kw3, w0, w1, w2, w3, w4, w5, w6, w7, C2, tc3, f2, tf3, (p : Int) + (body ts).length, tl3, (p : Int) + (body ts).length, ti3, .int (dn.length : Int) tq, dn, ne3⟩ ∧ ∃ kO', m' = kOM kO' (uM u (rowM2 (some (.int ((p : Int) + (body ts).length) plt)) (some (.ref gv)) got size kO (rowM1 ah (rowM0 x0 ka p (body ts).length C' NN tf tl tc tn))))) hr (range_down (by omega)).1 (range_down (by omega)).2 F4 N3 ⟨rfl, rfl, kO, rfl⟩ ?turn ?done
      case turn =>
        clear F4 N3 hr F3
        rintro i t g' m' news' h' tk' I o hi ⟨rfl, rfl, kO', rfl⟩ F1 N1 hI
        have hndI := cons_nodup (p := (I, o)) hI hnd3
        obtain ⟨j, hj, hij⟩ : ∃ j : Nat, j < ts.length ∧ (vs.length : Int) - 1 + (i : Int) * (-1) = (j : Int) := ⟨ts.length - 1 - i, by omega, by omega⟩
        rw [hij] at F1
        have hvj : vs[j]? = some vs[j] := List.getElem?_eq_getElem (by omega)
        have htj : ts[j]? = some ts[j] := List.getElem?_eq_getElem hj
        have hdj : Deep n ts[j] := hdeep _ (List.getElem_mem hj)
        have hP : PlaceAt vs (j : Int) vs[j] := ⟨j, rfl, by omega, hvj⟩
        unfold kOM uM rowM2 rowM1 rowM0 at F1
        have N2 := N1
        unfold rowLed rowEnts at N1
        dsimp only [List.cons_append, List.nil_append] at N1
        walk_at "m_steps"
        (rename Fr _ _ _ _ => F2)
        refine Paused.on (place_g F2 hkl3 hP ?_)
        rcases (hts.2 j _ _ hvj htj).split with ⟨x, tkx, ev, et⟩ | ⟨a, ws, nw, us, ev, et, ha, hws⟩
        · obtain ⟨tkd, hdj'⟩ := hlf j x (by omega) (by rw [htj, et])
          rw [ev] at hP ⊢
          walk_at "m_steps"
          refine Paused.on (callQ (fp := rowLed w ⟨x0, dx, el, kw3, w0, w1, w2, w3, w4, w5, w6, w7, C2, tc3, f2, tf3, (p : Int) + (body ts).length, tl3, (p : Int) + (body ts).length, ti3, .int (dn.length : Int) tq, dn, ne3⟩) (rest := [(I, o), (gv, listOf dn.toArray ng)]) XB TB B3 D3 F2 (News.perm N2 pull2') (nodup_perm hndI pull2') rfl rfl rfl rfl ?_ ?_ (fun b' _ _ _ => getitem_have (r := ⟨x0, dx, el, kw3, w0, w1, w2, w3, w4, w5, w6, w7, C2, tc3, f2, tf3, (p : Int) + (body ts).length, tl3, (p : Int) + (body ts).length, ti3, .int (dn.length : Int) tq, dn, ne3⟩) hdj' hz5) ?_)
          · show dp + 1 + 8 < recursionLimit; omega
          · show un + 3 + 1 + 80 < cLine; omega
          rintro _ led' h₅ tk₅ F5 N5 hnd5 ⟨rfl, rfl⟩
          have N6 := News.perm N5 pull2'.symm
          clear N5 hnd5 F2; (try clear N2); (try clear N1); (try clear F1)
          walk_at "m_steps"
          (rename Fr _ _ _ _ => F7)
          refine Paused.on (place_g F7 hkl3 hP ?_)
          walk_at "m_steps"
          (rename Fr _ _ _ _ => F8); (rename News _ _ _ _ => N8)
          refine Paused.on (useP XB TB B3 D3 F8 N8 rfl rfl rfl rfl ?_ ?_ (fun b' hb1 hb2 hb3 => same_leaf (by rw [et] at hdj; exact hdj.leaf)) ?_)
          · show dp + 1 + 1 < recursionLimit; omega
          · show un + 3 + 10 < cLine; omega
          rintro _ h₆ tk₈ F10 N10 rfl
          clear F8 N8
          walk_at "m_steps"
          (rename Fr _ _ _ _ => F11)
          refine Paused.on (place_g F11 hkl3 hP ?_)
          walk_at "m_steps"
          (rename Fr _ _ _ _ => F9); (rename News _ _ _ _ => N9)
          exact ⟨g', _, _, _, _, rfl, Fr_as (m' := kOM (some (.int (j : Int) t)) (uM u (rowM2 (some (.int ((p : Int) + (body ts).length) plt)) (some (.ref gv)) got size kO (rowM1 ah (rowM0 x0 ka p (body ts).length C' NN tf tl tc tn))))) F9 (by
            funext y
            unfold kOM uM rowM2
            by_cases h0 : y = Str.ofString "k"
            · subst h0; rfl
            · simp only [if_neg h0]; rfl), N9, hI, rfl, rfl, _, rfl⟩
        · obtain ⟨ad, hdj'⟩ := hnd j us (by omega) (by rw [htj, et])
          rw [ev] at hP ⊢
          have hal := list_stays B3 ha
          have hPg : PlaceAt dn (j : Int) (.ref ad) := ⟨j, rfl, by omega, hdj'⟩
          walk_at "m_steps"
          (rename Fr _ _ _ _ => F7)
          refine Paused.on (place_g F7 hkl3 hP ?_)
          walk_at "m_steps"
          (rename Fr _ _ _ _ => F7); (rename News _ _ _ _ => N7)
          refine Paused.on (callQ (fp := rowLed w ⟨x0, dx, el, kw3, w0, w1, w2, w3, w4, w5, w6, w7, C2, tc3, f2, tf3, (p : Int) + (body ts).length, tl3, (p : Int) + (body ts).length, ti3, .int (dn.length : Int) tq, dn, ne3⟩) (rest := [(I, o), (gv, listOf dn.toArray ng)]) XB TB B3 D3 F7 (News.perm N7 pull2') (nodup_perm hndI pull2') rfl rfl rfl rfl ?_ ?_ (fun b' _ _ _ => getitem_have (r := ⟨x0, dx, el, kw3, w0, w1, w2, w3, w4, w5, w6, w7, C2, tc3, f2, tf3, (p : Int) + (body ts).length, tl3, (p : Int) + (body ts).length, ti3, .int (dn.length : Int) tq, dn, ne3⟩) hdj' hz5) ?_)
          · show dp + 1 + 8 < recursionLimit; omega
          · show un + 3 + 1 + 80 < cLine; omega
          rintro _ led' h₅ tk₅ F5 N5 hnd5 ⟨rfl, rfl⟩
          have N6 := News.perm N5 pull2'.symm
          clear N5 hnd5 F7 N7
          walk_at "m_steps"
          (rename Fr _ _ _ _ => F8); (rename News _ _ _ _ => N8)
          refine Paused.on (place_led N8 (by k_mem) hPg ?_)
          walk_at "m_steps"
          (rename Fr _ _ _ _ => F9); (rename News _ _ _ _ => N9)
          exact ⟨g', _, _, _, _, rfl, Fr_as (m' := kOM (some (.int (j : Int) t)) (uM u (rowM2 (some (.int ((p : Int) + (body ts).length) plt)) (some (.ref gv)) got size kO (rowM1 ah (rowM0 x0 ka p (body ts).length C' NN tf tl tc tn))))) F9 (by
            funext y
            unfold kOM uM rowM2
            by_cases h0 : y = Str.ofString "k"
            · subst h0; rfl
            · simp only [if_neg h0]; rfl), N9, hI, rfl, rfl, _, rfl⟩
      case done =>
        clear F4 N3 hr F3
        rintro g' m' news' h' tk' ⟨rfl, rfl, kO', rfl⟩ F1 N1
        unfold kOM uM rowM2 rowM1 rowM0 at F1
        walk_at "m_steps"
        (rename Fr _ _ _ _ => F9); (rename News _ _ _ _ => N9)
        exact hret _ [] _ _ _ _ T3 B3 F9 (fun _ h => nomatch h) List.nodup_nil ⟨rfl, rfl⟩

theorem fill_p45_rows : PySem.Challenge.rw_eg5038_01 = PySem.Challenge.rw_eg5038_01 ∧ hd.heap_39 = hd.heap_39 := by w_top off; k_fill; exact ⟨rfl, rfl⟩

theorem row_all {w : World} {mean : ExcName → Option Value} {mg mb : Str → Option Value} : ∀ n, n ≤ 3 → PRow w mean mg mb n
  | 0, h => law_row h fun _ e => nomatch e
  | n + 1, h => law_row h fun m e => by
    obtain rfl : n = m := Nat.succ.inj e
    exact row_all n (by omega)
def overM (kidO howO kO : Option Value) (m : Str → Option Value) : Str → Option Value := fun y => if y = Str.ofString "kid" then kidO else if y = Str.ofString "how" then howO else if y = Str.ofString "k" then kO else m y
def overM0 (x0 ka : Addr) (o : Int) (t : Tok) : Str → Option Value := fun y => List.lookup y [(Str.ofString "row", Value.ref x0), (Str.ofString "kids", Value.ref ka), (Str.ofString "over", Value.int o t)].reverse
theorem pullA {a : Addr × Obj} {l c d : List (Addr × Obj)} : ((l ++ d) ++ a :: c).Perm (a :: (l ++ (c ++ d))) := by
  refine pull1.trans (List.Perm.cons _ ?_)
  rw [List.append_assoc]
  exact List.Perm.append_left _ List.perm_append_comm

local macro_rules | `(tactic| walk_at "m_map2") => `(tactic| (funext y; unfold overM overM0; by_cases h0 : y = Str.ofString "kid"; (subst h0; rfl); by_cases h1 : y = Str.ofString "how"; (subst h1; rfl); by_cases h2 : y = Str.ofString "k"; (subst h2; rfl); (first | (simp only [if_neg h0, if_neg h1, if_neg h2]; done) | (simp only [if_neg h0, if_neg h1, if_neg h2]; rfl))))

theorem fill_p46_over : PySem.Challenge.rw_eg5038_01 = PySem.Challenge.rw_eg5038_01 ∧ hd.heap_39 = hd.heap_39 := by w_top off; k_fill; exact ⟨rfl, rfl⟩

set_option maxHeartbeats 8000000 in
theorem law_over {w : World} {mean : ExcName → Option Value} {mg mb : Str → Option Value} {b : Heap} {r : RowSt} {ka : Addr} {vs : List Value} {k n p : Nat} {ts : List Tree} {over : Int} {to : Tok} (hn : n ≤ 3)
    (hka : b.get? ka = some (listOf vs.toArray k)) (hts : AreTrees (inHeap b) vs ts) (h5 : ts.length ≤ 5) (hdeep : ∀ t ∈ ts, Deep n t) (hC : r.code.length ≤ 16777216) (hA : AtCode r.code p (body ts)) (hidx : r.idx = (p : Int)) (hlen : r.len = .none) (hels : r.els = [])
    (hover : over = (p : Int) + (body ts).length) (hlo : ∀ i, i < ts.length → (p : Int) + (body (ts.take i)).length < r.last) (hhi : r.last < (p : Int) + (body ts).length) :
    Loud w mean mg mb 173 30 300 [.ref r.x, .ref ka, .int over to] (rowLed w r) b (fun v led' => v = .bool true ∧ led' = []) := by
  subst hover
  refine' loud_of (binds := [("row", .ref r.x), ("kids", .ref ka), ("over", .int ((p : Int) + (body ts).length) to)]) ?_ ?_ ?_ ?_ ?_ ?_ ?_ ?_ ?_
  walk_at "m_enter"
  intro dp un gd outer g L h₁ s Q hdp hu XB TB hbg F N B X T D hnd hret
  have hvl : vs.length = ts.length := hts.1
  have hz : vs.length ≤ sizeLine := by rw [sizeLine_eq]; omega
  have hkl : g.IsList ka vs.toArray := ⟨_, hbg _ _ hka, rfl, k, rfl⟩
  walk_at "m_steps"
  refine Paused.on (For_loop ?_)
  walk_at "m_steps"
  refine Paused.on ?_
  (rename Fr _ _ _ _ => F1); (rename News _ _ _ _ => N1)
  refine' loop_list (L := L) (items := vs.toArray) rfl rfl rfl rfl
    (fun i g' m' news' => g' = g ∧ ∃ (r1 : RowSt) (us : List Value) (c : List (Addr × Obj)) (kidO : Option Value), news' = rowLed w r1 ++ c ∧ (news'.map (·.1)).Nodup ∧ RowRead r r1 us ((p : Int) + (body (ts.take i)).length) ∧ Got w r.code p us (ts.take i) c ∧ m' = overM kidO none none (overM0 r.x ka ((p : Int) + (body ts).length) to))
    ?hl F1 N1 ⟨rfl, r, [], [], none, (List.append_nil _).symm, hnd, ⟨rfl, rfl, rfl, rfl, rfl, rfl, rfl, by rw [hidx]; simp [body], (List.append_nil _).symm⟩, .nil _, ?e0⟩ ?turn ?done
  case hl =>
    rintro i g' m' news' h' ⟨rfl, _⟩ F' N'
    exact ⟨_, F'.keep _ _ (hbg _ _ hka), rfl, k, rfl⟩
  case e0 => walk_at "m_map2"
  case turn =>
    clear F1 N1
    rintro i v g' m' news' h' tk' I o hv ⟨rfl, r1, us, c, kidO, rfl, hnd1, hrr, hgot, rfl⟩ F1 N1 hI
    have hit : i < ts.length := by
      have := (Array.getElem?_eq_some_iff.mp hv).1
      rw [List.size_toArray] at this; omega
    have hvi : vs[i]? = some v := by simpa using hv
    have hti : ts[i]? = some ts[i] := List.getElem?_eq_getElem hit
    have hdi : Deep n ts[i] := hdeep _ (List.getElem_mem hit)
    have hbt := body_take hit
    have hbd : body ts = body (ts.take i) ++ (code ts[i] ++ body (ts.drop (i + 1))) := by
      conv => lhs; rw [← List.take_append_drop i ts, body_append, List.drop_eq_getElem_cons hit, body]
    have hbl1 : (body (ts.take (i + 1))).length = (body (ts.take i)).length + (code ts[i]).length := by rw [hbt, List.length_append]
    have hAi : AtCode r.code (p + (body (ts.take i)).length) (code ts[i]) := by
      have h := hA
      rw [hbd] at h
      exact h.right.left
    have hndI := cons_nodup (p := (I, o)) hI hnd1
    have hlo' := hlo i hit
    obtain ⟨x1, dx1, el1, kw1, s0, s1, s2, s3, s4, s5, s6, s7, C1, tc1, f1, tf1, l1, tl1, id1, ti1, len1, els1, ne1⟩ := r1
    obtain ⟨z1, z2, z3, z4, z5, z6, z7, z8, z9⟩ := hrr
    dsimp only at z1 z2 z3 z4 z5 z6 z7 z8 z9
    subst x1 dx1 el1 C1 l1 len1 f1 id1
    rw [hels, List.nil_append] at z9
    subst els1
    have hul := hgot.lengths
    rw [List.length_take] at hul
    have N2 := N1
    unfold overM overM0 at F1
    unfold rowLed rowEnts at N1
    dsimp only [List.cons_append, List.nil_append] at N1
    walk_at "m_steps"
    refine Paused.on ?_
    dsimp only [List.cons_append, List.nil_append]
    refine callQ (fp := rowLed w ⟨r.x, r.dx, r.el, kw1, s0, s1, s2, s3, s4, s5, s6, s7, r.code, tc1, r.first, tf1, r.last, tl1, (p : Int) + (body (ts.take i)).length, ti1, r.len, us, ne1⟩) (rest := (I, o) :: c) XB TB B D F1 (News.perm N2 pull1) (nodup_perm hndI pull1) rfl rfl rfl rfl ?_ ?_ (fun b' _ _ _ => next_any (r := ⟨r.x, r.dx, r.el, kw1, s0, s1, s2, s3, s4, s5, s6, s7, r.code, tc1, r.first, tf1, r.last, tl1, (p : Int) + (body (ts.take i)).length, ti1, r.len, us, ne1⟩) (p := p + (body (ts.take i)).length) hC (Int.natCast_add _ _).symm ?_ hAi hn hdi ?_) ?_
    · show dp + 1 + 12 < recursionLimit; omega
    · show un + 3 + 120 < cLine; omega
    · show ((p + (body (ts.take i)).length : Nat) : Int) < r.last
      omega
    · show us.length ≤ sizeLine
      rw [sizeLine_eq]; omega
    rintro v' led' h₂ tk₂ F5 N5 hnd5 ⟨r2, c2, rfl, hr2, hg2⟩
    have N6 := News.perm N5 pullA.symm
    have hnd6 := nodup_perm hnd5 pullA.symm
    clear N5 hnd5 N2 F1 N1
    walk_at "m_steps"
    (rename Fr _ _ _ _ => F7); (rename News _ _ _ _ => N7)
    refine Paused.on (useP XB TB B D F7 N7 rfl rfl rfl rfl ?_ ?_ (fun b' hb1 hb2 hb3 => same_any hdi ((hts.2 i _ _ hvi hti).mono fun a o e => hb2 a o e) (hg2.one.mono fun a o hm => hb3 _ (.tail _ (List.mem_append_right _ (List.mem_append_right _ hm))))) ?_)
    · show dp + 1 + 1 < recursionLimit; omega
    · show un + 3 + 10 < cLine; omega
    rintro _ h₃ tk₃ F8 N8 rfl
    clear F7 N7
    walk_at "m_steps"
    (rename Fr _ _ _ _ => F9); (rename News _ _ _ _ => N9)
    refine ⟨g', _, _, _, _, rfl, Fr_as (m' := overM (some v) none none (overM0 r.x ka ((p : Int) + (body ts).length) to)) F9 (by walk_at "m_map2"), N9, nodup_head hnd6, rfl, r2, us ++ [v'], c ++ c2, some v, rfl, (List.nodup_cons.mp hnd6).2, ?_, ?_, rfl⟩
    · refine ⟨hr2.x, hr2.dx, hr2.el, hr2.code, hr2.first, hr2.last, hr2.len, hr2.idx.trans ?_, by rw [hr2.els, hels]; rfl⟩
      rw [hbl1]; omega
    · rw [List.take_succ_eq_append_getElem hit]
      exact hgot.append hg2
  case done =>
    clear F1 N1
    rintro g' m' news' h' tk' ⟨rfl, r1, us, c, kidO, rfl, hnd1, hrr, hgot, rfl⟩ F1 N1
    rw [List.size_toArray, hvl, List.take_length] at hrr hgot
    obtain ⟨x1, dx1, el1, kw1, s0, s1, s2, s3, s4, s5, s6, s7, C1, tc1, f1, tf1, l1, tl1, id1, ti1, len1, els1, ne1⟩ := r1
    obtain ⟨z1, z2, z3, z4, z5, z6, z7, z8, z9⟩ := hrr
    dsimp only at z1 z2 z3 z4 z5 z6 z7 z8 z9
    subst x1 dx1 el1 C1 l1 len1 f1 id1
    rw [hels, List.nil_append] at z9
    subst els1
    have hul := hgot.lengths
    have N2 := N1
    unfold overM overM0 at F1
    unfold rowLed rowEnts at N1
    dsimp only [List.cons_append, List.nil_append] at N1
    walk_at "m_steps"
    · exact absurd rfl (by assumption)
    refine Paused.on (For_loop ?_)
    walk_at "m_steps"
    refine Paused.on ?_
    (rename Fr _ _ _ _ => F3); (rename News _ _ _ _ => N3); (rename IsRange _ _ _ _ _ _ _ _ => hr)
    have N4 : News g' L _ (rowLed w ⟨r.x, r.dx, r.el, kw1, s0, s1, s2, s3, s4, s5, s6, s7, r.code, tc1, r.first, tf1, r.last, tl1, (p : Int) + (body ts).length, ti1, r.len, us, ne1⟩ ++ c) := N3
    have F4 := Fr_as (m' := overM kidO none none (overM0 r.x ka ((p : Int) + (body ts).length) to)) F3 (by walk_at "m_map2")
    clear F3 N3; (try clear N2); (try clear F1); (try clear N1)
    refine loop_range (L := L) (n := 3) rfl rfl rfl rfl (fun i g₂ m' news' => i = i ∧ Stand w mean mg mb (arA dp un gd outer) b outer g' g₂ ∧ news' = rowLed w ⟨r.x, r.dx, r.el, kw1, s0, s1, s2, s3, s4, s5, s6, s7, r.code, tc1, r.first, tf1, r.last, tl1, (p : Int) + (body ts).length, ti1, r.len, us, ne1⟩ ++ c ∧ ∃ howO, m' = overM kidO howO none (overM0 r.x ka ((p : Int) + (body ts).length) to)) hr (range_up (n := 3) (by omega)).1 (range_up (n := 3) (by omega)).2 F4 N4 ⟨rfl, ⟨KtsTurn.refl, B, X, T, D⟩, rfl, none, rfl⟩ ?turn ?done
    case turn =>
      clear F4 N4 hr
      rintro i t g₂ m' news' h' tk' I o hi ⟨-, St, rfl, howO, rfl⟩ F1 N1 hI
      obtain ⟨TK, B', X', T', D'⟩ := St
      have hndI := cons_nodup (p := (I, o)) hI hnd1
      have hkl' : g₂.IsList ka vs.toArray := list_stays B' hka
      unfold overM overM0 at F1
      have hi3 : i = 0 ∨ i = 1 ∨ i = 2 := by omega
      rcases hi3 with rfl | rfl | rfl
      · walk_at "m_steps"
        refine Paused.on ?_
        (try dsimp only [List.cons_append, List.nil_append])
        refine callR (fp := rowLed w ⟨r.x, r.dx, r.el, kw1, s0, s1, s2, s3, s4, s5, s6, s7, r.code, tc1, r.first, tf1, r.last, tl1, (p : Int) + (body ts).length, ti1, r.len, us, ne1⟩) (rest := (I, o) :: c) XB TB B' D' F1 (News.perm N1 pull1) (nodup_perm hndI pull1) rfl rfl rfl rfl ?_ ?_ (fun b' _ _ _ => next_assert (r := ⟨r.x, r.dx, r.el, kw1, s0, s1, s2, s3, s4, s5, s6, s7, r.code, tc1, r.first, tf1, r.last, tl1, (p : Int) + (body ts).length, ti1, r.len, us, ne1⟩) hhi) ?_
        · show dp + 1 + 4 < recursionLimit; omega
        · show un + 3 + 40 < cLine; omega
        rintro e led' h₂ tk₂ G R FG U hnd2 rfl -
        clear F1 N1
        have R' := RaisedSN.perm R pull1.symm
        clear R
        walk_at "m_steps"
        (rename Fr _ _ _ _ => F9); (rename News _ _ _ _ => N9); (rename Below _ _ _ _ => B9); (rename Frag.In _ _ => X9); (rename Top _ _ _ _ _ _ => P9); (rename KtsDicts _ _ => D9); (rename KtsTurn _ _ _ => T9)
        exact ⟨_, _, _, _, _, rfl, Fr_as (m' := overM kidO (some (.int _ t)) none (overM0 r.x ka ((p : Int) + (body ts).length) to)) F9 (by walk_at "m_map2"), N9, hI, (by trivial), ⟨by first | exact T9 | exact TK.trans T9, B9, X9, P9, D9⟩, rfl, _, rfl⟩
      · walk_at "m_steps"
        refine Paused.on ?_
        (try dsimp only [List.cons_append, List.nil_append])
        refine callR (fp := rowLed w ⟨r.x, r.dx, r.el, kw1, s0, s1, s2, s3, s4, s5, s6, s7, r.code, tc1, r.first, tf1, r.last, tl1, (p : Int) + (body ts).length, ti1, r.len, us, ne1⟩) (rest := (I, o) :: c) XB TB B' D' F1 (News.perm N1 pull1) (nodup_perm hndI pull1) rfl rfl rfl rfl ?_ ?_ (fun b' _ _ _ => getitem_assert (r := ⟨r.x, r.dx, r.el, kw1, s0, s1, s2, s3, s4, s5, s6, s7, r.code, tc1, r.first, tf1, r.last, tl1, (p : Int) + (body ts).length, ti1, r.len, us, ne1⟩) (i := vs.length) hhi (by show us.length = vs.length; omega) (by omega)) ?_
        · show dp + 1 + 8 < recursionLimit; omega
        · show un + 3 + 1 + 80 < cLine; omega
        rintro e led' h₂ tk₂ G R FG U hnd2 rfl -
        clear F1 N1
        have R' := RaisedSN.perm R pull1.symm
        clear R
        walk_at "m_steps"
        (rename Fr _ _ _ _ => F9); (rename News _ _ _ _ => N9); (rename Below _ _ _ _ => B9); (rename Frag.In _ _ => X9); (rename Top _ _ _ _ _ _ => P9); (rename KtsDicts _ _ => D9); (rename KtsTurn _ _ _ => T9)
        exact ⟨_, _, _, _, _, rfl, Fr_as (m' := overM kidO (some (.int _ t)) none (overM0 r.x ka ((p : Int) + (body ts).length) to)) F9 (by walk_at "m_map2"), N9, hI, (by trivial), ⟨by first | exact T9 | exact TK.trans T9, B9, X9, P9, D9⟩, rfl, _, rfl⟩
      · walk_at "m_steps"
        refine Paused.on ?_
        (try dsimp only [List.cons_append, List.nil_append])
        refine callR (fp := rowLed w ⟨r.x, r.dx, r.el, kw1, s0, s1, s2, s3, s4, s5, s6, s7, r.code, tc1, r.first, tf1, r.last, tl1, (p : Int) + (body ts).length, ti1, r.len, us, ne1⟩) (rest := (I, o) :: c) XB TB B' D' F1 (News.perm N1 pull1) (nodup_perm hndI pull1) rfl rfl rfl rfl ?_ ?_ (fun b' _ _ _ => len_assert (r := ⟨r.x, r.dx, r.el, kw1, s0, s1, s2, s3, s4, s5, s6, s7, r.code, tc1, r.first, tf1, r.last, tl1, (p : Int) + (body ts).length, ti1, r.len, us, ne1⟩) hhi hlen) ?_
        · show dp + 1 + 8 < recursionLimit; omega
        · show un + 3 + 1 + 80 < cLine; omega
        rintro e led' h₂ tk₂ G R FG U hnd2 rfl -
        clear F1 N1
        have R' := RaisedSN.perm R pull1.symm
        clear R
        walk_at "m_steps"
        (rename Fr _ _ _ _ => F9); (rename News _ _ _ _ => N9); (rename Below _ _ _ _ => B9); (rename Frag.In _ _ => X9); (rename Top _ _ _ _ _ _ => P9); (rename KtsDicts _ _ => D9); (rename KtsTurn _ _ _ => T9)
        exact ⟨_, _, _, _, _, rfl, Fr_as (m' := overM kidO (some (.int _ t)) none (overM0 r.x ka ((p : Int) + (body ts).length) to)) F9 (by walk_at "m_map2"), N9, hI, (by trivial), ⟨by first | exact T9 | exact TK.trans T9, B9, X9, P9, D9⟩, rfl, _, rfl⟩
    case done =>
      clear F4 N4 hr
      rintro g₂ m' news' h' tk' ⟨-, St, rfl, howO, rfl⟩ F1 N1
      obtain ⟨TK, B', X', T', D'⟩ := St
      have hkl' : g₂.IsList ka vs.toArray := list_stays B' hka
      unfold overM overM0 at F1
      walk_at "m_steps"
      refine Paused.on (For_loop ?_)
      walk_at "m_steps"
      refine Paused.on ?_
      (rename Fr _ _ _ _ => F3); (rename News _ _ _ _ => N3); (rename IsRange _ _ _ _ _ _ _ _ => hr)
      have F4 := Fr_as (m' := overM kidO howO none (overM0 r.x ka ((p : Int) + (body ts).length) to)) F3 (by walk_at "m_map2")
      clear F3; (try clear F1); (try clear N1)
      refine loop_range (L := L) (n := vs.length) rfl rfl rfl rfl (fun i g₃ m' news' => g₃ = g₂ ∧ news' = rowLed w ⟨r.x, r.dx, r.el, kw1, s0, s1, s2, s3, s4, s5, s6, s7, r.code, tc1, r.first, tf1, r.last, tl1, (p : Int) + (body ts).length, ti1, r.len, us, ne1⟩ ++ c ∧ ∃ kO, m' = overM kidO howO kO (overM0 r.x ka ((p : Int) + (body ts).length) to)) hr (range_up (by omega)).1 (range_up (by omega)).2 F4 N3 ⟨rfl, rfl, none, rfl⟩ ?turn ?done
      case turn =>
        clear F4 N3 hr
        rintro i t g₃ m' news' h' tk' I o hi ⟨rfl, rfl, kO, rfl⟩ F1 N1 hI
        have hndI := cons_nodup (p := (I, o)) hI hnd1
        rw [show (0 : Int) + (i : Int) * 1 = (i : Int) by omega] at F1
        have hvi : vs[i]? = some vs[i] := List.getElem?_eq_getElem hi
        have hti : ts[i]? = some ts[i] := List.getElem?_eq_getElem (by omega)
        have hdi : Deep n ts[i] := hdeep _ (List.getElem_mem _)
        have hP : PlaceAt vs (i : Int) vs[i] := ⟨i, rfl, by omega, hvi⟩
        have hui : us[i]? = some us[i] := List.getElem?_eq_getElem (by omega)
        have N2 := N1
        unfold overM overM0 at F1
        unfold rowLed rowEnts at N1
        dsimp only [List.cons_append, List.nil_append] at N1
        walk_at "m_steps"
        refine Paused.on ?_
        refine callQ (fp := rowLed w ⟨r.x, r.dx, r.el, kw1, s0, s1, s2, s3, s4, s5, s6, s7, r.code, tc1, r.first, tf1, r.last, tl1, (p : Int) + (body ts).length, ti1, r.len, us, ne1⟩) (rest := (I, o) :: c) XB TB B' D' F1 (News.perm N2 pull1) (nodup_perm hndI pull1) rfl rfl rfl rfl ?_ ?_ (fun b' _ _ _ => getitem_have (r := ⟨r.x, r.dx, r.el, kw1, s0, s1, s2, s3, s4, s5, s6, s7, r.code, tc1, r.first, tf1, r.last, tl1, (p : Int) + (body ts).length, ti1, r.len, us, ne1⟩) hui (by show us.length ≤ sizeLine; rw [sizeLine_eq]; omega)) ?_
        · show dp + 1 + 8 < recursionLimit; omega
        · show un + 3 + 1 + 80 < cLine; omega
        rintro _ led' h₅ tk₅ F5 N5 hnd5 ⟨rfl, rfl⟩
        have N6 := News.perm N5 pull1.symm
        clear N5; (try clear N2); (try clear F1); (try clear N1)
        walk_at "m_steps"
        (rename Fr _ _ _ _ => F7)
        refine Paused.on (place_g F7 hkl' hP ?_)
        walk_at "m_steps"
        (rename Fr _ _ _ _ => F8); (rename News _ _ _ _ => N8)
        refine Paused.on (useP XB TB B' D' F8 N8 rfl rfl rfl rfl ?_ ?_ (fun b' hb1 hb2 hb3 => same_any hdi ((hts.2 i _ _ hvi hti).mono fun a o e => hb2 a o e) ((hgot.at hui hti).mono fun a o hm => hb3 _ (.tail _ (List.mem_append_right _ hm)))) ?_)
        · show dp + 1 + 1 < recursionLimit; omega
        · show un + 3 + 10 < cLine; omega
        rintro _ h₆ tk₈ F10 N10 rfl
        clear F8 N8
        walk_at "m_steps"
        (rename Fr _ _ _ _ => F9); (rename News _ _ _ _ => N9)
        exact ⟨_, _, _, _, _, rfl, Fr_as (m' := overM kidO howO (some (.int _ t)) (overM0 r.x ka ((p : Int) + (body ts).length) to)) F9 (by walk_at "m_map2"), N9, hI, rfl, rfl, _, rfl⟩
      case done =>
        clear F4 N3 hr
        rintro g₃ m' news' h' tk' ⟨rfl, rfl, kO, rfl⟩ F1 N1
        unfold overM overM0 at F1
        unfold rowLed rowEnts at N1
        dsimp only [List.cons_append, List.nil_append] at N1
        walk_at "m_steps"
        (rename Fr _ _ _ _ => F9)
        rw [beq_self_eq_true]
        exact hret _ [] _ _ _ _ TK B' F9 (fun _ h => nomatch h) List.nodup_nil ⟨rfl, rfl⟩

theorem fill_p47_cells : PySem.Challenge.rw_eg5038_01 = PySem.Challenge.rw_eg5038_01 ∧ hd.heap_39 = hd.heap_39 := by w_top off; k_fill; exact ⟨rfl, rfl⟩

section
variable {w : World} {mean : ExcName → Option Value} {mg mb : Str → Option Value} {A : Around} {b : Heap} {outer : List Env} {s : Shared} {fp : List (Addr × Obj)}
  {R : Result → Shared → Prop} {name qual : Str} {params : Arguments} {body : List Stmt} {scope : Scope} {dV kV doc pm cdv ct oc : Value} {an od : Option Addr} {osl : Array (Option Value)} {f : Addr} {args : Args} {binds : List (Str × Value)}

/-- a function some of whose names are cells is entered -/
theorem enterC (S : Sit w mean mg mb A b outer s.heap) (Lf : Led b (frs outer) s.heap fp)
    (ho : (hd.heap_39 w.params).lookup f = some ⟨oc, od, .func (fnOf name qual params body scope dV kV doc pm an cdv ct), osl⟩) (hcd : codeIn (hd.heap_39 w.params) cdv qual = true) (hroom : A.depth < recursionLimit)
    (hbind : BindsTo s (fnOf name qual params body scope dV kV doc pm an cdv ct) args binds) (hkind : (binds.all fun y => scope.names.lookup y.1 == some .local || scope.names.lookup y.1 == some .cell) = true)
    (hnd : ((cellsFrom 0 scope.names []).map (·.1)).Nodup)
    (h : ∀ g L' h₁ tk cells, Fr g L' h₁ (bindL (envOfC qual scope L' f cdv).kindOf binds fun _ => none) → News g L' h₁ (cells ++ fp) → CellsAre (bindC (envOfC qual scope L' f cdv).kindOf binds fun _ => none) (cellsFrom (L' + 1) scope.names []) cells →
      Below A b outer g → (hd.heap_39 w.params).In g → Top P loose mean mg mb g → KtsDicts (frs outer) g →
      (∀ a o, s.heap.get? a = some o → a ∈ frs outer → g.get? a = some o) → s.heap.objs.size = L' → (∀ p ∈ fp, p.1 < L') →
      wpAny (model prog w) (A.deeper (envOfC qual scope L' f cdv)) (execs body (envOfC qual scope L' f cdv))
        (fun fl s' => R (.ok (.ret (match fl with | .ret v => v | _ => .none))) s')
        (fun e s' => wpAny (model prog w) (A.deeper (envOfC qual scope L' f cdv)) (leaving (envOfC qual scope L' f cdv) e) (fun _ s'' => R (.error e) s'') (fun e' s'' => R (.error e') s'') s')
        { s with heap := h₁, toks := tk })
    (hco : scope.isCoroutine = false) (hgen : scope.isGenerator = false) (hk : scope.kind = .function) : codeAny (model prog w) A (.call (.ref f) args) R s := by
  have X := S.K.keeps S.below.stays
  have st := stays_hide S.below Lf
  have hf : ∀ a o, s.heap.get? a = some o → a ∈ frs outer → (hideAll s.heap (fp.map (·.1))).get? a = some o := fun a o e hm => hideAll_get _ e fun q => by
    obtain ⟨p, hp, rfl⟩ := List.mem_map.mp q
    exact (Lf.at_ p hp).2.2 hm
  refine codeAny_call_function hroom (X _ _ ho) rfl hco hgen rfl (codeRec_of X hcd) (hbind _ _ _ _ ?_)
  refine wpAny_newFunctionEnv_cells hk (kindsX hkind _) fun env' he s' x => ?_
  subst he
  refine ⟨(S.T.nolimit.keeps S.below.stays).keeps x.toInCall.keep, codeAny_func ?_⟩
  obtain ⟨h₁, tk, rfl, _⟩ := x.done
  have hk₁ := x.toInCall.keep
  obtain ⟨cells, NC, Y⟩ := Cl.news (h₀ := s.heap) (Nat.le_refl _) fun n c hm => ⟨x.cell n c (lookup_of_mem_nodup (cellsFrom_names scope.names 0 (s.heap.objs.size + 1) [] [] rfl ▸ hnd) hm), x.above n c hm⟩
  refine h _ s.heap.objs.size h₁ tk cells ⟨x.toInCall.ns, fun b o e => hk₁ b o (of_hideAll _ e), Nat.le_of_eq (hideAll_size _ _)⟩ (fun p hp => ?_) Y
    ⟨S.below.stack, st, funFrames_hideAll S.below.frames fun env he a ha hfa => ?_⟩ (S.K.keeps st) (S.T.keeps st) ?_ hf rfl fun p hp => Heap.lt_size (Lf.at_ p hp).1
  · rcases List.mem_append.mp hp with hp | hp
    · refine ⟨(NC p hp).1, (NC p hp).2.1, ?_⟩
      cases q : (hideAll s.heap (fp.map (·.1))).get? p.1 with
      | none => rfl
      | some o => have := of_hideAll _ q; rw [(NC p hp).2.2] at this; cases this
    · exact ⟨hk₁ _ _ (Lf.at_ p hp).1, Nat.ne_of_lt (Heap.lt_size (Lf.at_ p hp).1), hideAll_none _ (List.mem_map_of_mem hp)⟩
  · obtain ⟨p, hp, rfl⟩ := List.mem_map.mp ha
    exact (Lf.at_ p hp).2.2 (List.mem_filterMap.mpr ⟨env, he, hfa⟩)
  · intro a ha
    obtain ⟨o, es, n, e, d⟩ := S.D a ha
    exact ⟨o, es, n, hf a o e ha, d⟩
end

theorem quietC_of {w : World} {b : Heap} {fp : List (Addr × Obj)} {mean : ExcName → Option Value} {mg mb : Str → Option Value} {name qual : Str} {params : Arguments} {body : List Stmt} {scope : Scope} {dV kV doc pm cdv ct oc : Value} {an od : Option Addr} {osl : Array (Option Value)} {f : Addr} {args : List Value} {binds : List (Str × Value)} {d u : Nat} {Post : Value → List (Addr × Obj) → Prop}
    (ho : (hd.heap_39 w.params).lookup f = some ⟨oc, od, .func (fnOf name qual params body scope dV kV doc pm an cdv ct), osl⟩) (hcd : codeIn (hd.heap_39 w.params) cdv qual = true)
    (hbind : ∀ s, BindsTo s (fnOf name qual params body scope dV kV doc pm an cdv ct) ⟨args, []⟩ binds) (hkind : (binds.all fun y => scope.names.lookup y.1 == some .local || scope.names.lookup y.1 == some .cell) = true)
    (hnd : ((cellsFrom 0 scope.names []).map (·.1)).Nodup)
    (h : ∀ (dp un : Nat) (gd : Option (List Code)) (outer : List Env) (g : Heap) (L' : Addr) (h₁ : Heap) (tk : Nat) (cells : List (Addr × Obj)) (s : Shared) (Q : Flow → Shared → Prop), dp + d < recursionLimit → un + u < cLine →
      (hd.heap_39 w.params).In b → Top P loose mean mg mb b → b.StaysIn g →
      Fr g L' h₁ (bindL (envOfC qual scope L' f cdv).kindOf binds fun _ => none) → News g L' h₁ (cells ++ fp) → CellsAre (bindC (envOfC qual scope L' f cdv).kindOf binds fun _ => none) (cellsFrom (L' + 1) scope.names []) cells → (∀ p ∈ fp, p.1 < L') →
      Below (arA dp un gd outer) b outer g → (hd.heap_39 w.params).In g → Top P loose mean mg mb g → KtsDicts (frs outer) g → (fp.map (·.1)).Nodup →
      (∀ v led' h' tk' m', Fr g L' h' m' → News g L' h' led' → (led'.map (·.1)).Nodup → Post v led' → Q (.ret v) { s with heap := h', toks := tk' }) →
      wpAny (model prog w) ((arA dp un gd outer).deeper (envOfC qual scope L' f cdv)) (execs body (envOfC qual scope L' f cdv)) Q (fun _ _ => False) { s with heap := h₁, toks := tk })
    (hco : scope.isCoroutine = false) (hgen : scope.isGenerator = false) (hk : scope.kind = .function) : Quiet w mean mg mb f d u args fp b Post := by
  intro A outer s R hh S hdp hu l hret
  obtain ⟨hd0, dp, fr, gd, un⟩ := A
  have hh' : hd0 = none := hh
  subst hh'
  have hfr : fr = some outer := S.below.stack
  subst hfr
  refine enterC S l ho hcd (by omega) (hbind s) hkind hnd (fun g L' h₁ tk cells F N Y B X T D hf hL hlt => ?_) hco hgen hk
  refine wpAny_mono (h dp un gd outer g L' h₁ tk cells s _ hdp hu S.K S.T B.stays F N Y hlt B X T D l.nodup fun v led' h' tk' m' F' N' nd hp => ?_) (fun _ _ x => x) fun _ _ x => x.elim
  obtain ⟨q, l'⟩ := ends_of B hf hL F' N' nd
  exact hret v led' h' tk' q l' hp

section
variable {prog : Program} {w : World} {A : Around} {h₀ : Heap} {L : Addr} {m : Str → Option Value} {env : Env} {elt : Expr} {x : Str} {scope : Scope} {cl : List (Str × Addr)} {s : Shared} {S : List (Addr × Obj) → Prop} {V : Nat → Value → Prop} {Fin : List Value → List (Addr × Obj) → Prop}
/-- a comprehension by what holds between its turns -/
theorem comp_inv {n : Nat} (J : Nat → List Value → List (Addr × Obj) → Prop)
    (turn : ∀ i ys news v I oI C oC D m₂ h tk (E' : Value → Shared → Prop), i < n → J i ys news → V i v → LCg.NsObj oC m₂ → m₂ x = some v → Fr h₀ L h m → News h₀ L h ((I, oI) :: (C, oC) :: (D, LCg.lst ys) :: news) → LCg.Off3 I C D news → ((@Ne Nat I C) ∧ (@Ne Nat I D) ∧ (@Ne Nat C D)) →
      wpAny (model prog w) A (eval elt (compEnvC scope cl C env)) (LCg.CompEnd h₀ L m { s with heap := h, toks := tk } I oI C oC D (LCg.lst ys) S (fun y news' => J (i + 1) (ys ++ [y]) news')) E' { s with heap := h, toks := tk })
    (fin : ∀ ys news, J n ys news → Fin ys news) : ∀ k i ys news, i + k = n → J i ys news → LCg.CompRest prog w A h₀ L m env elt x scope cl s S V Fin k i ys news
  | 0, i, ys, news, e, hJ => LCg.CompRest.zero (fin ys news (by have : i = n := e; rw [← this]; exact hJ))
  | k + 1, i, ys, news, e, hJ => LCg.CompRest.succ fun v I oI C oC D m₂ h tk E' hv hC hx F N off ne => by
    refine wpAny_mono (turn i ys news v I oI C oC D m₂ h tk E' (by omega) hJ hv hC hx F N off ne) (fun y s' q => ?_) fun _ _ x => x
    obtain ⟨h', tk', news', e', F', N', off', hS, hJ'⟩ := q
    exact ⟨h', tk', news', e', F', N', off', hS, comp_inv J turn fin k (i + 1) (ys ++ [y]) news' (by omega) hJ'⟩
end
section
variable {prog : Program} {w : World} {A : Around} {E : Value → Shared → Prop} {s : Shared} {h₀ : Heap} {L D : Addr} {news : List (Addr × Obj)} {Q : Value → Shared → Prop}
theorem menu8 {value slice : Expr} {q b : Int} {u k0 k1 k2 k3 k4 k5 k6 k7 : Tok} {n : Nat} {d : Option Addr} {sl : Array (Option Value)} (N : News h₀ L s.heap news) (hb : b = 8)
    (hm : (D, ({ cls := .type "tuple", dict := d, data := .seq #[.int 0 k0, .int 1 k1, .int 1 k2, .int 2 k3, .int 3 k4, .int 54 k5, .int 55 k6, .int 56 k7] n, slots := sl } : Obj)) ∈ news)
    (h : ∀ k tk, 0 ≤ k → k ≤ 56 → Q (.int k tk) s)
    (hs : subscripted slice false (.ref D) (.int (Int.fmod q b) u) = operate [.ref D, .int (Int.fmod q b) u] (getItem (.ref D) (.int (Int.fmod q b) u)) := by with_unfolding_all rfl) :
    wpAny (model prog w) A (subscriptTail value slice (.ref D) (.int (Int.fmod q b) u)) Q E s := by
  subst hb
  have h0 := Int.fmod_nonneg_of_pos q (b := 8) (by decide)
  have h1 := Int.fmod_lt_of_pos q (b := 8) (by decide)
  have T : IsTup s.heap D ([.int 0 k0, .int 1 k1, .int 1 k2, .int 2 k3, .int 3 k4, .int 54 k5, .int 55 k6, .int 56 k7] : List Value).toArray := News.isTup N hm
  obtain ⟨j, hj⟩ : ∃ j : Nat, Int.fmod q 8 = (j : Int) := ⟨(Int.fmod q 8).toNat, by omega⟩
  have hj8 : j < 8 := by omega
  have hi : seqIndex? (Int.fmod q 8) 8 = some j := by
    rw [hj]; unfold seqIndex?
    simp
    omega
  have hx : ∃ k tk, 0 ≤ k ∧ k ≤ 56 ∧ ([.int 0 k0, .int 1 k1, .int 1 k2, .int 2 k3, .int 3 k4, .int 54 k5, .int 55 k6, .int 56 k7] : List Value)[j]? = some (.int k tk) := by
    have h8 : j = 0 ∨ j = 1 ∨ j = 2 ∨ j = 3 ∨ j = 4 ∨ j = 5 ∨ j = 6 ∨ j = 7 := by omega
    rcases h8 with rfl | rfl | rfl | rfl | rfl | rfl | rfl | rfl <;> exact ⟨_, _, by decide, by decide, rfl⟩
  obtain ⟨k, tk, hk0, hk1, hx⟩ := hx
  exact item_tupleT T (by omega) (by omega) hi hx (h k tk hk0 hk1) hs
end
theorem rep_len {c : UInt8} {k : Int} (h1 : k ≤ 56) : (List.replicate k.toNat [c]).flatten.length ≤ 56 := by
  rw [show (List.replicate k.toNat [c]).flatten = List.replicate k.toNat c from by simp [List.flatten_replicate_singleton], List.length_replicate]
  omega
theorem nodup3 {I C D : Addr} {oI oC oD : Obj} {l : List (Addr × Obj)} (off : LCg.Off3 I C D l) (ne : (@Ne Nat I C) ∧ (@Ne Nat I D) ∧ (@Ne Nat C D)) (h : (l.map (·.1)).Nodup) : (((I, oI) :: (C, oC) :: (D, oD) :: l).map (·.1)).Nodup := by
  have o := off.mem
  refine cons_nodup (fun q hq => ?_) (cons_nodup (fun q hq => ?_) (cons_nodup (fun q hq => (o q hq).2.2) h))
  · rcases List.mem_cons.mp hq with rfl | hq
    · exact fun e => ne.1 e.symm
    rcases List.mem_cons.mp hq with rfl | hq
    · exact fun e => ne.2.1 e.symm
    · exact (o q hq).1
  · rcases List.mem_cons.mp hq with rfl | hq
    · exact fun e => ne.2.2 e.symm
    · exact (o q hq).2.1
theorem off3_of {I C D : Addr} {oI oC oD : Obj} {l : List (Addr × Obj)} (h : (((I, oI) :: (C, oC) :: (D, oD) :: l).map (·.1)).Nodup) : LCg.Off3 I C D l :=
  LCg.Off3.of fun p hp => ⟨nodup_head h p (.tail _ (.tail _ hp)), nodup_head (List.nodup_cons.mp h).2 p (.tail _ hp), nodup_head (List.nodup_cons.mp (List.nodup_cons.mp h).2).2 p hp⟩
theorem off1_mem {D : Addr} : ∀ {l : List (Addr × Obj)}, LCg.Off1 D l → ∀ p ∈ l, p.1 ≠ D
  | [], _, _, h => nomatch h
  | _ :: _, x, p, h => by
    rcases List.mem_cons.mp h with rfl | h
    · exact x.1
    · exact off1_mem x.2 p h
theorem perm_tree {i c d l e f : Addr × Obj} {x y : List (Addr × Obj)} : (i :: c :: d :: l :: e :: f :: (x ++ y)).Perm ((l :: y) ++ i :: c :: d :: e :: f :: x) := by
  refine List.Perm.trans ?_ (List.perm_append_comm)
  show List.Perm ([i, c, d] ++ l :: (e :: f :: (x ++ y))) ((i :: c :: d :: e :: f :: x) ++ l :: y)
  refine List.perm_middle.trans (List.Perm.trans ?_ List.perm_middle.symm)
  exact List.Perm.refl _

local macro_rules | `(tactic| walk_at "CompSrc") => `(tactic| (k_here; refine pause ?_))
local macro_rules | `(tactic| walk_at "eval ListComp") => `(tactic| (k_here; lcf_look; k_dflt (refine LCg.ListComp_U (F₀ := by k_asm) (by with_unfolding_all rfl) (by decide) (by rfl) (by decide) (by rfl) ?_)))
local macro_rules | `(tactic| walk_at "m_enterC") => `(tactic| all_goals (first | (k_dflt k_is; done) | exact fun _ => BindsTo.of_eq rfl | exact rfl | decide +kernel | skip))
local macro_rules | `(tactic| walk_at "subscriptTail") => `(tactic| (k_here; (with_reducible show wpAny _ _ (subscriptTail (Expr.Tuple _ _ _) _ (Value.ref _) (Value.int _ _)) _ _ _); k_dflt (refine' menu8 ?N ?b ?m ?_ ?hs; (case N => k_asm); (case b => rfl); (case m => k_mem); (case hs => with_unfolding_all rfl)); intro k' tk' h0' h1'))
local macro_rules | `(tactic| walk_at "binaryOp Mult bytes int") => `(tactic| (k_here; (with_reducible show wpAny _ _ (binaryOp Operator.Mult (Value.bytes (List.toArray _) _) (Value.int _ _)) _ _ _); k_dflt (refine' bytes_mul_any ?b ?h1 ?hn ?hs ?_; (case b => exact List.cons_ne_nil _ _); (case h1 => omega); (case hn => omega); (case hs => decide)); intro _ _))

theorem fill_p48_tree : PySem.Challenge.rw_eg5038_01 = PySem.Challenge.rw_eg5038_01 ∧ hd.heap_39 = hd.heap_39 := by w_top off; k_fill; exact ⟨rfl, rfl⟩

def TreePost (d l : Nat) (len : Nat) (v : Value) (led' : List (Addr × Obj)) : Prop := ∃ n' vs' ns' t c, led' = (l, listOf (List.toArray vs') n') :: c ∧ IntsAre vs' ns' ∧ vs'.length ≤ len ∧ Deep d t ∧ IsTree (inLed c) v t
def PTree (w : World) (mean : ExcName → Option Value) (mg mb : Str → Option Value) (d : Nat) : Prop := ∀ (b : Heap) (l n : Nat) (vs : List Value) (ns : List Int) (tk : Tok), IntsAre vs ns → vs.length ≤ 1000 →
  Quiet w mean mg mb 131 (d + 3) (20 * d + 40) [.ref l, .int (d : Int) tk] [(l, listOf vs.toArray n)] b (TreePost d l vs.length)
set_option maxHeartbeats 8000000 in
theorem law_tree {w : World} {mean : ExcName → Option Value} {mg mb : Str → Option Value} {d : Nat} (hd2 : d ≤ 2) (IH : ∀ m, d = m + 1 → PTree w mean mg mb m) : PTree w mean mg mb d := by
  intro b l n vs ns tk hI hvl
  refine' quietC_of (binds := [("left", .ref l), ("deep", .int (d : Int) tk)]) ?_ ?_ ?_ ?_ ?_ ?_ ?_ ?_ ?_
  walk_at "m_enterC"
  intro dp un gd outer g L h₁ tk₁ cells s Q hdp hu XB TB hbg F N Y hlt B X T D hnd hret
  obtain ⟨oc1, oc2, rfl, hc1, hc2⟩ := CellsAre.two Y
  clear Y
  have hl : @LT.lt Nat _ l L := hlt _ (.head _)
  dsimp only [List.cons_append, List.nil_append] at N
  walk_at "m_steps"
  (rename Fr _ _ _ _ => F1); (rename News _ _ _ _ => N1)
  have hndc : (([(l, listOf vs.toArray n)] ++ [(L + 1 + 1, oc1), (L + 1, oc2)]).map (·.1)).Nodup := by
    show [l, L + 1 + 1, L + 1].Nodup
    simp only [List.nodup_cons, List.mem_cons, List.not_mem_nil, or_false, not_or, not_false_eq_true, List.nodup_nil, and_true]
    exact ⟨⟨by show ¬ @Eq Nat l (L + 1 + 1); omega, by show ¬ @Eq Nat l (L + 1); omega⟩, by show ¬ @Eq Nat (L + 1 + 1) (L + 1); omega⟩
  refine Paused.on (callQ (fp := [(l, listOf vs.toArray n)]) (rest := [(L + 1 + 1, oc1), (L + 1, oc2)]) XB TB B D F1 (News.perm N1 pull2') hndc rfl rfl rfl rfl ?_ ?_ (fun b' _ _ _ => law_next_q hI hvl) ?_)
  · show dp + 1 + 1 < recursionLimit; omega
  · show un + 3 + 10 < cLine; omega
  rintro _ led' h' tk' F2 N2 hnd2 ⟨n1, vs1, t1, rfl, hI1, hvl1, rfl⟩
  clear F1 N1 hndc
  generalize hq : List.headD ns 0 = q at *
  dsimp only [List.cons_append, List.nil_append] at N2
  walk_at "m_steps"
  · exact hret _ [_] _ _ _ (by k_asm) (News.sub (by k_asm) (sub_one (by k_mem))) (by simp) ⟨n1, vs1, _, .leaf _, [], rfl, hI1, hvl1, Deep.of_leaf (rep_len (by assumption)), .leaf _ _⟩
  · exact hret _ [_] _ _ _ (by k_asm) (News.sub (by k_asm) (sub_one (by k_mem))) (by simp) ⟨n1, vs1, _, .leaf _, [], rfl, hI1, hvl1, Deep.of_leaf (rep_len (by assumption)), .leaf _ _⟩
  · obtain ⟨k, hk, hk4⟩ : ∃ k : Nat, Int.fmod (Int.fdiv q 3) 4 = (k : Int) ∧ k < 4 := by
      have h0 := Int.fmod_nonneg_of_pos (Int.fdiv q 3) (b := 4) (by decide)
      have h1 := Int.fmod_lt_of_pos (Int.fdiv q 3) (b := 4) (by decide)
      exact ⟨(Int.fmod (Int.fdiv q 3) 4).toNat, by omega, by omega⟩
    obtain ⟨mm, rfl⟩ : ∃ mm, d = mm + 1 := ⟨d - 1, by omega⟩
    (rename Fr _ _ _ _ => F3); (rename News _ _ _ _ => N3); (rename IsRange _ _ _ _ _ _ _ _ => hr)
    rw [hk] at hr
    refine Paused.on (LCg.CompSrc.range (n := k) rfl F3 N3 hr (range_up (by omega)).1 (range_up (by omega)).2 (by rw [sizeLine_eq]; omega) ?_)
    intro g'
    refine comp_inv (n := k) (fun i ys news => ∃ (n' : Nat) (vs' : List Value) (ns' : List Int) (ts : List Tree) (c : List (Addr × Obj)), news = (l, listOf vs'.toArray n') :: (L + 1 + 1, oc1) :: (L + 1, oc2) :: c ∧ (news.map (·.1)).Nodup ∧ IntsAre vs' ns' ∧ vs'.length ≤ vs.length ∧ ts.length = i ∧ (∀ t ∈ ts, Deep mm t) ∧ AreTrees (inLed c) ys ts)
      ?turn ?fin k 0 [] _ (by omega) ⟨n1, vs1, _, [], [], rfl, hnd2, hI1, hvl1, rfl, (by simp), AreTrees.nil⟩
    case turn =>
      clear hr F3 N3 hnd2
      rintro i ys news v I oI C oC Dl m₂ h tk₃ E' hi ⟨n', vs', ns', ts, c, rfl, hnd3, hI3, hvl3, hts3, hdp3, hat3⟩ hV hoC hx F4 N4 off ne
      have hnd4 := nodup3 (oI := oI) (oC := oC) (oD := LCg.lst ys) off ne hnd3
      walk_at "m_steps"
      refine Paused.on ?_
      rw [show (((mm + 1 : Nat) : Int) - 1) = (mm : Int) by omega]
      have hpm : ((I, oI) :: (C, oC) :: (Dl, LCg.lst ys) :: (l, listOf vs'.toArray n') :: (L + 1 + 1, oc1) :: (L + 1, oc2) :: (c ++ [])).Perm (([(l, listOf vs'.toArray n')]) ++ ((I, oI) :: (C, oC) :: (Dl, LCg.lst ys) :: (L + 1 + 1, oc1) :: (L + 1, oc2) :: c)) := perm_tree
      rw [List.append_nil] at hpm
      refine callQ (fp := [(l, listOf vs'.toArray n')]) (rest := (I, oI) :: (C, oC) :: (Dl, LCg.lst ys) :: (L + 1 + 1, oc1) :: (L + 1, oc2) :: c) XB TB B D F4 (News.perm N4 hpm.symm) (nodup_perm hnd4 hpm.symm) rfl rfl rfl rfl ?_ ?_ (fun b' _ _ _ => IH mm rfl b' l n' vs' ns' _ hI3 (by omega)) ?_
      · show dp + 1 + (mm + 3) < recursionLimit; omega
      · show un + 3 + (20 * mm + 40) < cLine; omega
      rintro y led' h₅ tk₅ F5 N5 hnd5 ⟨n'', vs'', ns'', t, c2, rfl, hI5, hvl5, hdp5, hit5⟩
      have N6 := News.perm N5 (perm_tree (i := (I, oI)) (c := (C, oC)) (d := (Dl, LCg.lst ys)) (l := (l, listOf vs''.toArray n'')) (e := (L + 1 + 1, oc1)) (f := (L + 1, oc2)) (x := c) (y := c2))
      have hnd6 := nodup_perm hnd5 (perm_tree (i := (I, oI)) (c := (C, oC)) (d := (Dl, LCg.lst ys)) (l := (l, listOf vs''.toArray n'')) (e := (L + 1 + 1, oc1)) (f := (L + 1, oc2)) (x := c) (y := c2))
      clear N5 hnd5 N4 F4 hpm
      walk_at "m_steps"
      (rename Fr _ _ _ _ => F7); (rename News _ _ _ _ => N7)
      refine LCg.CompEnd.intro F7 N7 _ (fun p hp => hp) (off3_of hnd6) trivial ⟨n'', vs'', ns'', ts ++ [t], c ++ c2, rfl, (List.nodup_cons.mp (List.nodup_cons.mp (List.nodup_cons.mp hnd6).2).2).2, hI5, by omega, by rw [List.length_append, hts3]; rfl, ?_, ?_⟩
      · intro t' ht'
        rcases List.mem_append.mp ht' with ht' | ht'
        · exact hdp3 t' ht'
        · rw [List.mem_singleton.mp ht']; exact hdp5
      · exact (hat3.mono fun a o hm => List.mem_append_left _ hm).append (AreTrees.cons (hit5.mono fun a o hm => List.mem_append_right _ hm) .nil)
    case fin =>
      rintro ys news ⟨n', vs', ns', ts, c, rfl, hnd3, hI3, hvl3, hts3, hdp3, hat3⟩
      intro Dl h tk₃ F4 N4 off
      have o1 := off1_mem off
      walk_at "m_steps"
      refine hret _ ((l, listOf vs'.toArray n') :: (Dl, LCg.lst ys) :: c) _ _ _ F4 (News.sub N4 fun p hp => ?_) ?_ ⟨n', vs', ns', .node ts, (Dl, LCg.lst ys) :: c, rfl, hI3, hvl3, ⟨by omega, hdp3⟩, ?_⟩
      · rcases List.mem_cons.mp hp with rfl | hp
        · exact .tail _ (.head _)
        rcases List.mem_cons.mp hp with rfl | hp
        · exact .head _
        · exact .tail _ (.tail _ (.tail _ (.tail _ hp)))
      · have h1 := List.nodup_cons.mp hnd3
        have h2 := List.nodup_cons.mp (List.nodup_cons.mp (List.nodup_cons.mp hnd3).2).2
        refine cons_nodup (fun q hq => ?_) (cons_nodup (fun q hq => o1 q (.tail _ (.tail _ (.tail _ hq)))) h2.2)
        rcases List.mem_cons.mp hq with rfl | hq
        · exact fun e => o1 _ (.head _) e.symm
        · exact nodup_head hnd3 q (.tail _ (.tail _ hq))
      · exact IsTree.node (n := ys.length) (List.Mem.head _) hat3.1 fun i v t h1 h2 => (hat3.2 i v t h1 h2).mono fun a o hm => .tail _ hm
theorem tree_all {w : World} {mean : ExcName → Option Value} {mg mb : Str → Option Value} : ∀ d, d ≤ 2 → PTree w mean mg mb d
  | 0, h => law_tree h fun _ e => nomatch e
  | d + 1, h => law_tree h fun m e => by
    obtain rfl : d = m := Nat.succ.inj e
    exact tree_all d (by omega)

local macro_rules | `(tactic| walk_at "exec Assign cons ListComp") => `(tactic| (k_here; lcf_look; k_dflt (refine LCg.Assign_ListComp_U (F₀ := by k_asm) (by rfl) (by with_unfolding_all rfl) (by with_unfolding_all rfl) (by decide) (by rfl) (by decide) (by rfl) (by rfl) (by rfl) ?_)))
local macro_rules | `(tactic| walk_at "m_go") => `(tactic| repeat' (first | (k_unfold; (try dsimp only)) | walk1 | (dsimp only; walk1)))

theorem fill_p49_lawfacts : PySem.Challenge.rw_eg5038_01 = PySem.Challenge.rw_eg5038_01 ∧ hd.heap_39 = hd.heap_39 := by w_top off; k_fill; exact ⟨rfl, rfl⟩

/-- the borders of the parts, as the law keeps them -/
structure BordersAre (bs : List Value) (q : Nat) (ts : List Tree) (i : Nat) : Prop where
  len : bs.length = i + 1
  at_ : ∀ j, j ≤ i → ∃ t, bs[j]? = some (.int ((q + (body (ts.take j)).length : Nat) : Int) t)
theorem BordersAre.next {bs : List Value} {q : Nat} {ts : List Tree} {i : Nat} {t : Tok} (h : BordersAre bs q ts i) {e : Int} (he : e = ((q + (body (ts.take (i + 1))).length : Nat) : Int)) : BordersAre (bs ++ [.int e t]) q ts (i + 1) := by
  refine ⟨by rw [List.length_append, h.len]; rfl, fun j hj => ?_⟩
  by_cases hji : j ≤ i
  · obtain ⟨t', e'⟩ := h.at_ j hji
    exact ⟨t', by rw [List.getElem?_append_left (by rw [h.len]; omega)]; exact e'⟩
  · have : j = i + 1 := by omega
    subst this
    refine ⟨t, ?_⟩
    rw [List.getElem?_append_right (by rw [h.len]; exact Nat.le_refl _), h.len, Nat.sub_self, he]; rfl
theorem BordersAre.place {bs : List Value} {q : Nat} {ts : List Tree} {i j : Nat} (h : BordersAre bs q ts i) (hj : j ≤ i) (hi : i < 100) {e : Int} (he : e = (j : Int)) : ∃ t, PlaceAt bs e (.int ((q + (body (ts.take j)).length : Nat) : Int) t) := by
  obtain ⟨t, e'⟩ := h.at_ j hj
  exact ⟨t, j, he, by omega, e'⟩

theorem pick_cut {vs : List Value} {a b : Nat} (hab : a ≤ b) (hb : b ≤ vs.length) : (slicePick vs.toArray (some (a : Int)) (some (b : Int)) none).toList = (vs.drop a).take (b - a) := by
  have e : sliceBounds (some (a : Int)) (some (b : Int)) none vs.toArray.size = ((a : Int), (b : Int), 1) := by
    simp only [sliceBounds, Option.getD_none, show (1 : Int) > 0 by decide, if_true, if_neg (show ¬ ((a : Int) < 0) by omega), if_neg (show ¬ ((b : Int) < 0) by omega), List.size_toArray]
    congr 1
    · omega
    · congr 1
      omega
  rw [kmk_pick_nat _ e]
theorem pick_to {vs : List Value} {b : Nat} (hb : b ≤ vs.length) : (slicePick vs.toArray none (some (b : Int)) none).toList = vs.take b := by
  have e : sliceBounds none (some (b : Int)) none vs.toArray.size = (((0 : Nat) : Int), (b : Int), 1) := by
    simp only [sliceBounds, Option.getD_none, show (1 : Int) > 0 by decide, if_true, if_neg (show ¬ ((b : Int) < 0) by omega), List.size_toArray]
    congr 1
    congr 1
    omega
  rw [kmk_pick_nat _ e]
  rfl
/-- what is cut out of a list -/
def CutAt (vs : List Value) (lo hi : Option Int) (zs : List Value) : Prop := (slicePick vs.toArray lo hi none).toList = zs ∧ vs.length ≤ sizeLine

section
variable {prog : Program} {w : World} {A : Around} {E : Value → Shared → Prop} {s : Shared} {h₀ : Heap} {L l : Addr} {m : Str → Option Value} {news : List (Addr × Obj)} {Q : Value → Shared → Prop}
theorem cut_led {value slice : Expr} {vs zs : List Value} {n : Nat} {vl vu : Value} {lo hi : Option Int} (F : Fr h₀ L s.heap m) (N : News h₀ L s.heap news) (hm : (l, listOf vs.toArray n) ∈ news) (pl : IsPart vl lo) (pu : IsPart vu hi) (hc : CutAt vs lo hi zs)
    (h : ∀ D h', Fr h₀ L h' m → News h₀ L h' ((D, listOf zs.toArray 0) :: news) → (∀ p ∈ news, p.1 < D) → Q (.ref D) { s with heap := h' })
    (hs : subscripted slice false (.ref l) (.ref s.heap.objs.size) = operate [.ref s.heap.objs.size, .ref l] (getItem (.ref l) (.ref s.heap.objs.size))) (ht : ∀ r, letTemporaryGo value (.ref l) r = pure ()) :
    wpAny (model prog w) A (subscriptTail value slice (.ref l) (.ref s.heap.objs.size)) Q E { s with heap := s.heap.push { cls := .type "slice", data := .fields #[vl, vu, .none] } } :=
  kmk_slice_lit F N (list_at N hm) pl pu hc.1 h hs ht (by rw [List.size_toArray]; exact hc.2)
theorem neg_led {value slice : Expr} {i : Int} {u : Tok} {vs : List Value} {n : Nat} {x : Value} (N : News h₀ L s.heap news) (hm : (l, listOf vs.toArray n) ∈ news) (hi : i < 0) (h1 : -(vs.length : Int) ≤ i) (hz : vs.length ≤ sizeLine) (hx : vs[(i + vs.length).toNat]? = some x) (h : Q x s)
    (hs : subscripted slice false (.ref l) (.int i u) = operate [.ref l, .int i u] (getItem (.ref l) (.int i u)) := by with_unfolding_all rfl) (hg : ∀ r, letTemporaryGo value (.ref l) r = pure () := by intro _; with_unfolding_all rfl) :
    wpAny (model prog w) A (subscriptTail value slice (.ref l) (.int i u)) Q E s := by
  have hl' := list_at N hm
  rw [sizeLine_eq] at hz
  exact subscriptTail_builtin hl'.typeIs slot_list_getitem.lookup (wpAny_getItem_list_neg hl' hi (by rw [List.size_toArray]; exact h1) (by omega) (by rw [List.size_toArray]; simpa using hx) h) hs hg
end

theorem AreTrees.drop {H : Addr → Obj → Prop} {vs : List Value} {ts : List Tree} (h : AreTrees H vs ts) (a : Nat) : AreTrees H (vs.drop a) (ts.drop a) :=
  ⟨by rw [List.length_drop, List.length_drop, h.1], fun i v t h1 h2 => by rw [List.getElem?_drop] at h1 h2; exact h.2 _ v t h1 h2⟩
theorem AreTrees.take {H : Addr → Obj → Prop} {vs : List Value} {ts : List Tree} (h : AreTrees H vs ts) (k : Nat) : AreTrees H (vs.take k) (ts.take k) :=
  ⟨by rw [List.length_take, List.length_take, h.1], fun i v t h1 h2 => by
    rw [List.getElem?_take] at h1 h2
    split at h1
    · rename_i hi
      rw [if_pos hi] at h2
      exact h.2 _ v t h1 h2
    · exact nomatch h1⟩

/-- the parts from a to b -/
abbrev cut {α : Type} (l : List α) (a b : Nat) : List α := (l.drop a).take (b - a)
theorem cut_to {α : Type} (l : List α) (b : Nat) : cut l 0 b = l.take b := rfl
theorem cut_all {α : Type} (l : List α) : cut l 0 l.length = l := by rw [cut_to, List.take_length]
theorem take_cut {ts : List Tree} {a b : Nat} (hab : a ≤ b) : body (ts.take b) = body (ts.take a) ++ body (cut ts a b) := by
  obtain ⟨k, rfl⟩ : ∃ k, b = a + k := ⟨b - a, by omega⟩
  rw [List.take_add, body_append, cut, Nat.add_sub_cancel_left]
theorem take_cut_len {ts : List Tree} {a b : Nat} (hab : a ≤ b) : (body (ts.take b)).length = (body (ts.take a)).length + (body (cut ts a b)).length := by
  rw [take_cut hab, List.length_append]
theorem at_cut {bf af C : List UInt8} {ts : List Tree} {a b : Nat} (hC : C = bf ++ body ts ++ af) (hab : a ≤ b) : AtCode C (bf.length + (body (ts.take a)).length) (body (cut ts a b)) := by
  have e : body ts = body (ts.take a) ++ body (cut ts a b) ++ body (ts.drop b) := by
    rw [← take_cut hab, ← body_append, List.take_append_drop]
  exact ⟨bf ++ body (ts.take a), body (ts.drop b) ++ af, by rw [hC, e]; simp [List.append_assoc], by rw [List.length_append]⟩
theorem cut_take {ts : List Tree} {a b i : Nat} (hi : i < b - a) : (cut ts a b).take i = cut ts a (a + i) := by
  rw [cut, cut, List.take_take, Nat.add_sub_cancel_left, Nat.min_eq_left (by omega)]
theorem cut_below {ts : List Tree} {a b i : Nat} (hi : i < b - a) : (body (ts.take a)).length + (body ((cut ts a b).take i)).length ≤ (body (ts.take (b - 1))).length := by
  rw [cut_take hi, ← take_cut_len (by omega)]
  have := take_cut_len (ts := ts) (a := a + i) (b := b - 1) (by omega)
  omega
theorem cut_len {α : Type} {l : List α} {a b : Nat} (hb : b ≤ l.length) : (cut l a b).length = b - a := by
  rw [cut, List.length_take, List.length_drop]; omega
theorem cut_mem {α : Type} {l : List α} {a b : Nat} {x : α} (h : x ∈ cut l a b) : x ∈ l := List.mem_of_mem_drop (List.mem_of_mem_take h)
theorem perm_tree1 {i c d l e : Addr × Obj} {x y : List (Addr × Obj)} : (i :: c :: d :: l :: e :: (x ++ y)).Perm ((l :: y) ++ i :: c :: d :: e :: x) := by
  refine List.Perm.trans ?_ (List.perm_append_comm)
  show List.Perm ([i, c, d] ++ l :: (e :: (x ++ y))) ((i :: c :: d :: e :: x) ++ l :: y)
  refine List.perm_middle.trans (List.Perm.trans ?_ List.perm_middle.symm)
  exact List.Perm.refl _
theorem allLt_mem {d : Addr} : ∀ {l : List (Addr × Obj)}, AllLt d l → ∀ p ∈ l, @LT.lt Nat _ p.1 d
  | [], _, _, h => nomatch h
  | _ :: _, x, p, h => by
    rcases List.mem_cons.mp h with rfl | h
    · exact x.1
    · exact allLt_mem x.2 p h
/-- the law's own two parts behind -/
abbrev tailT : List Tree := [.leaf [7, 8, 9], .node [.leaf [1], .leaf [255]]]
theorem tail_trees {c : List (Addr × Obj)} {Di : Addr} {t1 t2 t3 : Tok} {ys : List Value} {ts : List Tree} {n : Nat} (h : AreTrees (inLed c) ys ts) :
    AreTrees (inLed ((Di, listOf #[.bytes #[1] t1, .bytes #[255] t2] n) :: c)) (ys ++ [.bytes #[7, 8, 9] t3, .ref Di]) (ts ++ tailT) := by
  refine (h.mono fun a o hm => .tail _ hm).append (AreTrees.cons (IsTree.leaf [7, 8, 9] t3) (AreTrees.cons ?_ .nil))
  refine IsTree.node (vs := [.bytes #[1] t1, .bytes #[255] t2]) (n := n) (List.Mem.head _) rfl fun i v t h1 h2 => ?_
  exact (AreTrees.cons (IsTree.leaf [1] t1) (AreTrees.cons (IsTree.leaf [255] t2) .nil)).2 i v t h1 h2
theorem tail_deep {ts : List Tree} (h : ∀ t ∈ ts, Deep 2 t) : ∀ t ∈ ts ++ tailT, Deep 2 t := fun t ht => by
  rcases List.mem_append.mp ht with ht | ht
  · exact h t ht
  · rcases List.mem_cons.mp ht with rfl | ht
    · exact Deep.of_leaf (by decide)
    · rw [List.mem_singleton.mp ht]
      refine ⟨by decide, fun t' ht' => ?_⟩
      rcases List.mem_cons.mp ht' with rfl | ht'
      · exact Deep.of_leaf (by decide)
      · rw [List.mem_singleton.mp ht']; exact Deep.of_leaf (by decide)
def lawM (parts before after borders part code many n i j size en : Option Value) (sc : Addr) : Str → Option Value := fun y => if y = Str.ofString "parts" then parts else if y = Str.ofString "before" then before else if y = Str.ofString "after" then after else if y = Str.ofString "borders" then borders else if y = Str.ofString "part" then part else if y = Str.ofString "code" then code else if y = Str.ofString "many" then many else if y = Str.ofString "n" then n else if y = Str.ofString "i" then i else if y = Str.ofString "j" then j else if y = Str.ofString "size" then size else if y = Str.ofString "end" then en else if y = Str.ofString "script" then some (.ref sc) else none
theorem row_led_nodup {w : World} {r : RowSt} {rest : List (Addr × Obj)} (h : (rest.map (·.1)).Nodup) (h1 : ∀ p ∈ rest, p.1 < r.dx) (h2 : @LT.lt Nat _ r.dx r.x) (h3 : @LT.lt Nat _ r.x r.el) : ((rowLed w r ++ rest).map (·.1)).Nodup := by
  refine led_join (fun p hp q hq => ?_) (row_nodup h2 h3) h
  have hq' : @LT.lt Nat _ q.1 r.dx := h1 q hq
  have hge : @LE.le Nat _ r.dx p.1 := by
    unfold rowLed at hp
    rcases List.mem_cons.mp hp with rfl | hp
    · exact Nat.le_of_lt h2
    rcases List.mem_cons.mp hp with rfl | hp
    · exact Nat.le_refl _
    rcases List.mem_cons.mp hp with rfl | hp
    · exact Nat.le_of_lt (Nat.lt_trans h2 h3)
    · exact nomatch hp
  exact Nat.ne_of_lt (Nat.lt_of_lt_of_le hq' hge)
/-- how the law must end -/
def LawEnd (s₁ : Shared) (L : Addr) (f : Flow) (s' : Shared) : Prop := f = .ret (.bool true) ∧ ∃ h' tk' m', s' = { s₁ with heap := h', toks := tk' } ∧ Fr s₁.heap L h' m'

local macro_rules | `(tactic| walk_at "m_map3") => `(tactic| (funext y; by_cases h0 : y = Str.ofString "parts"; (subst h0; rfl); by_cases h1 : y = Str.ofString "before"; (subst h1; rfl); by_cases h2 : y = Str.ofString "after"; (subst h2; rfl); by_cases h3 : y = Str.ofString "borders"; (subst h3; rfl); by_cases h4 : y = Str.ofString "part"; (subst h4; rfl); by_cases h5 : y = Str.ofString "code"; (subst h5; rfl); by_cases h6 : y = Str.ofString "many"; (subst h6; rfl); by_cases h7 : y = Str.ofString "n"; (subst h7; rfl); by_cases h8 : y = Str.ofString "i"; (subst h8; rfl); by_cases h9 : y = Str.ofString "j"; (subst h9; rfl); by_cases h10 : y = Str.ofString "size"; (subst h10; rfl); by_cases h11 : y = Str.ofString "end"; (subst h11; rfl); by_cases h12 : y = Str.ofString "script"; (subst h12; rfl); (first | (simp only [lawM, if_neg h0, if_neg h1, if_neg h2, if_neg h3, if_neg h4, if_neg h5, if_neg h6, if_neg h7, if_neg h8, if_neg h9, if_neg h10, if_neg h11, if_neg h12]; done) | (simp only [lawM, if_neg h0, if_neg h1, if_neg h2, if_neg h3, if_neg h4, if_neg h5, if_neg h6, if_neg h7, if_neg h8, if_neg h9, if_neg h10, if_neg h11, if_neg h12]; exact if_neg h12) | (simp only [lawM, if_neg h0, if_neg h1, if_neg h2, if_neg h3, if_neg h4, if_neg h5, if_neg h6, if_neg h7, if_neg h8, if_neg h9, if_neg h10, if_neg h11, if_neg h12]; rfl))))
local macro_rules | `(tactic| walk_at "subscriptTail Name UnaryOp ref int") => `(tactic| (k_here; (with_reducible show wpAny _ _ (subscriptTail (Expr.Name ("borders" : Str) _) _ _ _) _ _ _); refine pause ?_))
local macro_rules | `(tactic| walk_at "subscriptTail Name Name ref int") => `(tactic| (k_here; (with_reducible show wpAny _ _ (subscriptTail (Expr.Name ("borders" : Str) _) _ _ _) _ _ _); refine pause ?_))
local macro_rules | `(tactic| walk_at "subscriptTail Name BinOp ref int") => `(tactic| (k_here; (with_reducible show wpAny _ _ (subscriptTail (Expr.Name ("borders" : Str) _) _ _ _) _ _ _); refine pause ?_))
local macro_rules | `(tactic| walk_at "subscriptTail Name Constant ref int") => `(tactic| (k_here; (with_reducible show wpAny _ _ (subscriptTail (Expr.Name ("borders" : Str) _) _ _ _) _ _ _); refine pause ?_))
local macro_rules | `(tactic| walk_at "exec For Name BinOp cons nil") => `(tactic| (k_here; refine pause ?_))
local macro_rules | `(tactic| walk_at "subscriptTail Name Slice ref ref") => `(tactic| (k_here; (with_reducible show wpAny _ _ (subscriptTail (Expr.Name ("parts" : Str) _) (Expr.Slice _ _ none _) (Value.ref _) (Value.ref _)) _ _ _); refine pause ?_))

theorem fill_p50_law : PySem.Challenge.rw_eg5038_01 = PySem.Challenge.rw_eg5038_01 ∧ hd.heap_39 = hd.heap_39 := by w_top off; k_fill; exact ⟨rfl, rfl⟩

set_option maxHeartbeats 8000000 in
theorem whole : PySem.Challenge.rw_eg5038_01.Holds := by
  refine hd ?_
  k_go0
  (rename Fr _ _ _ _ => F1); (rename News _ _ _ _ => N1); (rename IntsAre _ _ => hI); (rename Top _ _ _ _ _ _ => TB0); (rename PySem.W.Frag.In _ _ => XB); (rename Below _ _ _ _ => B0); (rename Heap.IsList _ _ _ => hLs)
  (rename ¬ (63 : Int) < _ => h63)
  rename_i w s₀ s₁ mg mb G Y fa oo pm doc ho hg X V GL BT TE TW a1 a2 M a3 cd hcd ns hs hlay0 hLn hr hl2 a4 a5 sc vs a7 ra w1 r0 hr2 hT hD h₁ tk₁ oc hoc X0
  dsimp only at F1 hoc
  have B : Below (arA (1 + claimMargin) 4 (some []) []) s₁.heap [] s₁.heap := B0
  have TB : Top P loose (ExcName.means s₀.heap) mg mb s₁.heap := TB0
  have D : KtsDicts (frs []) s₁.heap := fun _ h => nomatch h
  have hvl : vs.length = ns.length := hI.length
  clear G Y ho X V GL BT TE TW M hcd hs hlay0 hLn hr hl2 ra w1 r0 hr2 hT hD X0 B0 TB0
  refine wpAny_mono (Q := LawEnd s₁ s₁.heap.objs.size) (E := fun _ _ => False) ?walk ?fin fun _ _ h => h.elim
  case fin =>
    rintro f s' ⟨rfl, h', tk', m', rfl, F9⟩
    clear F1
    dsimp only
    wrow_close
  clear hg
  have F0 := Fr_as (m' := lawM none none none none none none none none none none none none sc) F1 (by walk_at "m_map3")
  clear F1
  show wpAny (model prog w) ((arA (1 + claimMargin) 4 (some []) []).deeper _) _ _ _ _
  walk_at "m_go"
  have hdp : 1 + claimMargin + 100 < recursionLimit := by decide +kernel
  have hcu : 4 + 1000 < cLine := by decide +kernel
  generalize (1 + claimMargin) = dp at *
  generalize s₁.heap.objs.size = L at *
  (rename Fr _ _ _ _ => F2); (rename News _ _ _ _ => N2)
  rename_i Dl ws hA hIw hCw hLw hB ocl hcl hlt
  have hwl : ws.length ≤ 1000 := by rw [hIw.length, List.length_take]; omega
  have hnd1 : (([(Dl, listOf ws.toArray 0)] ++ [(L + 1, ocl)]).map (·.1)).Nodup := by
    show [Dl, L + 1].Nodup
    simp only [List.nodup_cons, List.mem_singleton, List.not_mem_nil, not_false_eq_true, List.nodup_nil, and_true]
    show ¬ @Eq Nat Dl (L + 1)
    have h : @LT.lt Nat _ (L + 1) Dl := hlt
    omega
  refine Paused.on (callQ (fp := [(Dl, listOf ws.toArray 0)]) (rest := [(L + 1, ocl)]) XB TB B D F2 N2 hnd1 rfl rfl rfl rfl ?_ ?_ (fun b' _ _ _ => law_next_q hIw hwl) ?_)
  · show dp + 1 + 1 < recursionLimit; omega
  · show 4 + 3 + 10 < cLine; omega
  rintro _ led' h' tk' F3 N3 hnd3 ⟨n1, ws1, t1, rfl, hI1, hwl1, rfl⟩
  clear F2 N2 hnd1 hLw hCw
  generalize hq : List.headD (List.take 14 ns) 0 = q at *
  dsimp only [List.cons_append, List.nil_append] at N3 hnd3
  walk_at "m_go"
  clear hq
  obtain ⟨k, hk, hk3⟩ : ∃ k : Nat, 1 + Int.fmod q 3 = (k : Int) ∧ 1 ≤ k ∧ k ≤ 3 := by
    have h0 := Int.fmod_nonneg_of_pos q (b := 3) (by decide)
    have h1 := Int.fmod_lt_of_pos q (b := 3) (by decide)
    exact ⟨(1 + Int.fmod q 3).toNat, by omega, by omega, by omega⟩
  (rename Fr _ _ _ _ => F4); (rename News _ _ _ _ => N4); (rename IsRange _ _ _ _ _ _ _ _ => hr)
  rw [hk] at hr
  refine Paused.on (LCg.CompSrc.range (n := k) rfl F4 N4 hr (range_up (by omega)).1 (range_up (by omega)).2 (by rw [sizeLine_eq]; omega) ?_)
  intro g'
  refine comp_inv (n := k) (fun i ys news => ∃ (n' : Nat) (vs' : List Value) (ns' : List Int) (ts : List Tree) (c : List (Addr × Obj)), news = (Dl, listOf vs'.toArray n') :: (L + 1, ocl) :: c ∧ (news.map (·.1)).Nodup ∧ IntsAre vs' ns' ∧ vs'.length ≤ 1000 ∧ ts.length = i ∧ (∀ t ∈ ts, Deep 2 t) ∧ AreTrees (inLed c) ys ts)
    ?turn ?fin k 0 [] _ (by omega) ⟨n1, ws1, _, [], [], rfl, hnd3, hI1, by omega, rfl, (by simp), AreTrees.nil⟩
  case turn =>
    clear hr F4 N4 hnd3
    rintro i ys news v I oI C oC Dc m₂ h tk₃ E' hi ⟨n', vs', ns', ts, c, rfl, hnd3, hI3, hvl3, hts3, hdp3, hat3⟩ hV hoC hx F4 N4 off ne
    have hnd4 := nodup3 (oI := oI) (oC := oC) (oD := LCg.lst ys) off ne hnd3
    walk_at "m_go"
    refine Paused.on ?_
    have hpm : ((I, oI) :: (C, oC) :: (Dc, LCg.lst ys) :: (Dl, listOf vs'.toArray n') :: (L + 1, ocl) :: (c ++ [])).Perm ([(Dl, listOf vs'.toArray n')] ++ ((I, oI) :: (C, oC) :: (Dc, LCg.lst ys) :: (L + 1, ocl) :: c)) := perm_tree1
    rw [List.append_nil] at hpm
    refine callQ (fp := [(Dl, listOf vs'.toArray n')]) (rest := (I, oI) :: (C, oC) :: (Dc, LCg.lst ys) :: (L + 1, ocl) :: c) XB TB B D F4 (News.perm N4 hpm.symm) (nodup_perm hnd4 hpm.symm) rfl rfl rfl rfl ?_ ?_ (fun b' _ _ _ => tree_all 2 (by omega) b' Dl n' vs' ns' _ hI3 (by omega)) ?_
    · show dp + 1 + (2 + 3) < recursionLimit; omega
    · show 4 + 3 + (20 * 2 + 40) < cLine; omega
    rintro y led' h₅ tk₅ F5 N5 hnd5 ⟨n'', vs'', ns'', t, c2, rfl, hI5, hvl5, hdp5, hit5⟩
    have N6 := News.perm N5 (perm_tree1 (i := (I, oI)) (c := (C, oC)) (d := (Dc, LCg.lst ys)) (l := (Dl, listOf vs''.toArray n'')) (e := (L + 1, ocl)) (x := c) (y := c2))
    have hnd6 := nodup_perm hnd5 (perm_tree1 (i := (I, oI)) (c := (C, oC)) (d := (Dc, LCg.lst ys)) (l := (Dl, listOf vs''.toArray n'')) (e := (L + 1, ocl)) (x := c) (y := c2))
    clear N5 hnd5 N4 F4 hpm
    walk_at "m_go"
    (rename Fr _ _ _ _ => F7); (rename News _ _ _ _ => N7)
    refine LCg.CompEnd.intro F7 N7 _ (fun p hp => hp) (off3_of hnd6) trivial ⟨n'', vs'', ns'', ts ++ [t], c ++ c2, rfl, (List.nodup_cons.mp (List.nodup_cons.mp (List.nodup_cons.mp hnd6).2).2).2, hI5, by omega, by rw [List.length_append, hts3]; rfl, ?_, ?_⟩
    · intro t' ht'
      rcases List.mem_append.mp ht' with ht' | ht'
      · exact hdp3 t' ht'
      · rw [List.mem_singleton.mp ht']; exact hdp5
    · exact (hat3.mono fun a o hm => List.mem_append_left _ hm).append (AreTrees.cons (hit5.mono fun a o hm => List.mem_append_right _ hm) .nil)
  case fin =>
    clear hr F4 N4 hnd3
    rintro ys news ⟨n', vs', ns', ts, c, rfl, hnd3, hI3, hvl3, hts3, hdp3, hat3⟩
    intro Dp h tk₃ F4 N4 off
    have o1 := off1_mem off
    walk_at "m_go"
    (rename Fr _ _ _ _ => F5); (rename News _ _ _ _ => N5)
    rename_i Di hDi hltDi Do hDo hltDo
    refine kmk_add_lit F5 N5 (News.isList N5 (by k_mem)) (News.isList N5 (by k_mem)) (zs := ys ++ [.bytes #[7, 8, 9] _, .ref Di]) rfl ?_ ?_
    · intro Dp2 h₆ F6 N6 hlt6
      obtain ⟨pv, ts2, c2, N7, hnd7, hat7, h3, h5, hdp7⟩ : ∃ (pv : List Value) (ts2 : List Tree) (c2 : List (Addr × Obj)), News s₁.heap L h₆ ((Dp2, listOf pv.toArray 0) :: c2) ∧ ((((Dp2, listOf pv.toArray 0) :: c2)).map (·.1)).Nodup ∧ AreTrees (inLed c2) pv ts2 ∧ 3 ≤ ts2.length ∧ ts2.length ≤ 5 ∧ (∀ t ∈ ts2, Deep 2 t) := by
        refine ⟨ys ++ [.bytes #[7, 8, 9] tk₃, .ref Di], ts ++ tailT, (Di, listOf #[.bytes #[1] (tk₃ + 1), .bytes #[255] (tk₃ + 1 + 1)] 0) :: c, News.sub N6 (fun p hp => ?_), ?_, tail_trees hat3, by simp [hts3]; omega, by simp [hts3]; omega, tail_deep hdp3⟩
        · rcases List.mem_cons.mp hp with rfl | hp
          · exact .head _
          rcases List.mem_cons.mp hp with rfl | hp
          · exact .tail _ (.tail _ (.head _))
          · exact .tail _ (.tail _ (.tail _ (.tail _ (.tail _ (.tail _ hp)))))
        · have hc := (List.nodup_cons.mp (List.nodup_cons.mp hnd3).2).2
          refine cons_nodup (fun q hq => ?_) (cons_nodup (fun q hq => Nat.ne_of_lt (allLt_mem hltDi.2.2.2 q hq)) hc)
          rcases List.mem_cons.mp hq with rfl | hq
          · exact Nat.ne_of_lt (hlt6 _ (.tail _ (.head _)))
          · exact Nat.ne_of_lt (hlt6 _ (.tail _ (.tail _ (.tail _ (.tail _ (.tail _ hq))))))
      clear hltDi hltDo hlt6 N5 F5 N6 hat3 hdp3 hnd3 off o1 hI3 hvl3 hts3 hk hk3
      walk_at "m_go"
      (rename Fr _ _ _ _ => F8); (rename News _ _ _ _ => N8)
      rename_i Dw ww hw hIww hCw hLw hltw
      refine Paused.on (LCg.CompSrc.ledger rfl F8 N8 (by k_mem) (by rw [List.size_toArray, hIww.length, sizeLine_eq]; omega) ?_)
      intro g''
      refine comp_inv (n := ww.toArray.size) (fun i zs news => news = (Dw, listOf ww.toArray 0) :: (Dp2, listOf pv.toArray 0) :: c2 ∧ ∃ ms : List Int, IntsAre zs ms ∧ ms.length = i ∧ ∀ m ∈ ms, 0 ≤ m ∧ m < 256) ?turn ?fin _ 0 [] _ (by omega) ⟨rfl, [], .nil, rfl, fun _ h => nomatch h⟩
      case turn =>
        clear F8 N8
        rintro i zs news v I oI C oC Dc m₂ h tk₃ E' hi ⟨rfl, ms, hms, hml, hmb⟩ hV hoC hx F4 N4 off ne
        obtain ⟨a, ta, rfl, -⟩ := hIww.at i v (by simpa using hV)
        walk_at "m_go"
        refine LCg.CompEnd.intro F4 N4 _ (fun p hp => hp) off (.inr ⟨_, by k_mem, rfl, _, rfl⟩) ⟨rfl, ms ++ [Int.fmod a 256], hms.append (.cons _ _ .nil), by rw [List.length_append, hml]; rfl, fun m hm => ?_⟩
        rcases List.mem_append.mp hm with hm | hm
        · exact hmb m hm
        · rw [List.mem_singleton.mp hm]
          exact ⟨Int.fmod_nonneg_of_pos a (by decide), Int.fmod_lt_of_pos a (by decide)⟩
      case fin =>
        clear F8 N8
        rintro zs news ⟨rfl, ms, hms, hml, hmb⟩
        intro Dc h tk₃ F4 N4 off
        walk_at "m_go"
        have hm2 : ms.length ≤ 2 := by
          rw [hml, List.size_toArray, hIww.length, List.length_take]; omega
        refine bytes_K F4 N4 (News.isList N4 (by k_mem)) hms hmb (by rw [hms.length, sizeLine_eq]; omega) rfl ?_
        rintro h₇ bft k₇ F10 N9 -
        have N10 : News s₁.heap L h₇ ((Dp2, listOf pv.toArray 0) :: c2) := News.sub N9 fun p hp => .tail _ (.tail _ hp)
        have bf2 : (ms.map fun n => n.toNat.toUInt8).length ≤ 2 := by rw [List.length_map]; exact hm2
        generalize (ms.map fun n => n.toNat.toUInt8) = bf at *
        clear N9 F4 N4 off hms hml hmb hm2 hIww hCw hLw hltw
        walk_at "m_go"
        (rename Fr _ _ _ _ => F8); (rename News _ _ _ _ => N8)
        rename_i Dw ww hw hIww hCw hLw hltw
        refine Paused.on (LCg.CompSrc.ledger rfl F8 N8 (by k_mem) (by rw [List.size_toArray, hIww.length, sizeLine_eq]; omega) ?_)
        intro g''
        refine comp_inv (n := ww.toArray.size) (fun i zs news => news = (Dw, listOf ww.toArray 0) :: (Dp2, listOf pv.toArray 0) :: c2 ∧ ∃ ms : List Int, IntsAre zs ms ∧ ms.length = i ∧ ∀ m ∈ ms, 0 ≤ m ∧ m < 256) ?turn ?fin _ 0 [] _ (by omega) ⟨rfl, [], .nil, rfl, fun _ h => nomatch h⟩
        case turn =>
          clear F8 N8
          rintro i zs news v I oI C oC Dc m₂ h tk₃ E' hi ⟨rfl, ms, hms, hml, hmb⟩ hV hoC hx F4 N4 off ne
          obtain ⟨a, ta, rfl, -⟩ := hIww.at i v (by simpa using hV)
          walk_at "m_go"
          refine LCg.CompEnd.intro F4 N4 _ (fun p hp => hp) off (.inr ⟨_, by k_mem, rfl, _, rfl⟩) ⟨rfl, ms ++ [Int.fmod a 256], hms.append (.cons _ _ .nil), by rw [List.length_append, hml]; rfl, fun m hm => ?_⟩
          rcases List.mem_append.mp hm with hm | hm
          · exact hmb m hm
          · rw [List.mem_singleton.mp hm]
            exact ⟨Int.fmod_nonneg_of_pos a (by decide), Int.fmod_lt_of_pos a (by decide)⟩
        case fin =>
          clear F8 N8
          rintro zs news ⟨rfl, ms, hms, hml, hmb⟩
          intro Dc h tk₃ F4 N4 off
          walk_at "m_go"
          have hm2 : ms.length ≤ 2 := by
            rw [hml, List.size_toArray, hIww.length, List.length_take]; omega
          refine bytes_K F4 N4 (News.isList N4 (by k_mem)) hms hmb (by rw [hms.length, sizeLine_eq]; omega) rfl ?_
          rintro h₇ aft k₇ F11 N9 -
          have N11 : News s₁.heap L h₇ ((Dp2, listOf pv.toArray 0) :: c2) := News.sub N9 fun p hp => .tail _ (.tail _ hp)
          have af2 : (ms.map fun n => n.toNat.toUInt8).length ≤ 2 := by rw [List.length_map]; exact hm2
          generalize (ms.map fun n => n.toNat.toUInt8) = af at *
          clear N9 F4 N4 off hms hml hmb hm2 hIww hCw hLw hltw
          walk_at "m_go"
          refine Paused.on (For_loop ?_)
          walk_at "m_go"
          refine Paused.on ?_
          (rename Fr _ _ _ _ => F12); (rename News _ _ _ _ => N12)
          rename_i tb kb Db hb1 hltb hb2
          have hM : pv.length = ts2.length := hat7.1
          have F13 := Fr_as (m' := lawM (some (.ref Dp2)) (some (.bytes bf.toArray bft)) (some (.bytes af.toArray aft)) (some (.ref Db)) none none none none none none none none sc) F12 (by walk_at "m_map3")
          have N13 : News s₁.heap L hb2 ((Db, listOf ([.int (bf.length : Int) tb] : List Value).toArray 0) :: (Dp2, listOf pv.toArray 0) :: c2) := N12
          have hndb : ((((Db, listOf ([] : List Value).toArray 0) :: (Dp2, listOf pv.toArray 0) :: c2)).map (·.1)).Nodup := by
            refine cons_nodup (fun q hq => ?_) hnd7
            rcases List.mem_cons.mp hq with rfl | hq
            · exact Nat.ne_of_lt hltb.1
            · exact Nat.ne_of_lt (allLt_mem hltb.2 q hq)
          clear F12 N12 hltb
          have hbs0 : BordersAre [.int (bf.length : Int) tb] bf.length ts2 0 := ⟨rfl, fun j hj => ⟨tb, by
            have : j = 0 := by omega
            subst this
            simp [body]⟩⟩
          refine' loop_list (L := L) (items := pv.toArray) rfl rfl rfl rfl
            (fun i g' m' news' => g' = s₁.heap ∧ ∃ (bs : List Value) (nb : Nat) (pO : Option Value), news' = (Db, listOf bs.toArray nb) :: (Dp2, listOf pv.toArray 0) :: c2 ∧ BordersAre bs bf.length ts2 i ∧ m' = lawM (some (.ref Dp2)) (some (.bytes bf.toArray bft)) (some (.bytes af.toArray aft)) (some (.ref Db)) pO none none none none none none none sc)
            ?hl F13 N13 ⟨rfl, [.int (bf.length : Int) tb], 0, none, rfl, hbs0, rfl⟩ ?turn ?done
          case hl =>
            rintro i g' m' news' h' ⟨rfl, bs, nb, pO, rfl, _⟩ F' N'
            exact News.isList N' (.tail _ (.head _))
          case turn =>
            clear F13 N13
            rintro i v g' m' news' h' tk' I o hv ⟨rfl, bs, nb, pO, rfl, hbs, rfl⟩ F1 N1 hI
            have hit : i < ts2.length := by
              have := (Array.getElem?_eq_some_iff.mp hv).1
              rw [List.size_toArray] at this; omega
            have hvi : pv[i]? = some v := by simpa using hv
            have hti : ts2[i]? = some ts2[i] := List.getElem?_eq_getElem hit
            have hdi : Deep 2 ts2[i] := hdp7 _ (List.getElem_mem hit)
            have hbl1 : (body (ts2.take (i + 1))).length = (body (ts2.take i)).length + (code ts2[i]).length := by rw [body_take hit, List.length_append]
            have hcz : (code ts2[i]).length ≤ 16777216 := by
              have := (code_length (by omega) hdi).1
              rw [most_le.2.2.1] at this
              omega
            have hbz : bs.length ≤ sizeLine := by rw [hbs.len, sizeLine_eq]; omega
            have hIDb : @Ne Nat I Db := fun e => hI _ (.head _) e.symm
            have hDbr : ∀ q ∈ (Dp2, listOf pv.toArray 0) :: c2, q.1 ≠ Db := nodup_head hndb
            walk_at "m_go"
            refine Paused.on (neg_led N1 (by k_mem) (by decide) (by rw [hbs.len]; omega) hbz (x := .int ((bf.length + (body (ts2.take i)).length : Nat) : Int) (Classical.choose (hbs.at_ i (Nat.le_refl _)))) ?_ ?_)
            · rw [show ((-1 : Int) + bs.length).toNat = i by rw [hbs.len]; omega]
              exact Classical.choose_spec (hbs.at_ i (Nat.le_refl _))
            generalize Classical.choose (hbs.at_ i (Nat.le_refl _)) = tbi
            walk_at "m_go"
            refine Paused.on (useP XB TB B D F1 N1 rfl rfl rfl rfl ?_ ?_ (fun b' hb1 hb2 hb3 => code_all 2 (by omega) b' v ts2[i] hdi ((hat7.2 i _ _ hvi hti).mono fun a o hm => hb3 _ (.tail _ (.tail _ (.tail _ hm))))) ?_)
            · show dp + 1 + (2 * 2 + 4) < recursionLimit; omega
            · show 4 + 3 + (40 * 2 + 60) < cLine; omega
            rintro _ h₃ tk₃ F2 N2 ⟨tkc, rfl⟩
            clear F1 N1
            walk_at "m_go"
            (rename Fr _ _ _ _ => F9); (rename News _ _ _ _ => N9)
            refine ⟨_, _, (Db, listOf (bs ++ [Value.int (((bf.length + (body (ts2.take i)).length : Nat) : Int) + ((code ts2[i]).length : Int)) _]).toArray (nb + 1)) :: (Dp2, listOf pv.toArray 0) :: c2, _, _, rfl, F9, N9, ?_, rfl, _, nb + 1, some v, rfl, hbs.next ?_, by walk_at "m_map3"⟩
            · intro p hp
              rcases List.mem_cons.mp hp with rfl | hp
              · exact hI (Db, listOf bs.toArray nb) (.head _)
              · exact hI p (.tail _ hp)
            · rw [hbl1]; omega
          case done =>
            clear F13 N13
            rintro g' m' news' h' tk' ⟨rfl, bs, nb, pO, rfl, hbs, rfl⟩ F1 N1
            rw [List.size_toArray, hM] at hbs
            walk_at "m_go"
            refine Paused.on (useP XB TB B D F1 N1 rfl rfl rfl rfl ?_ ?_ (fun b' hb1 hb2 hb3 => body_all 2 (by omega) b' Dp2 pv 0 ts2 (hb3 _ (.tail _ (.head _))) (hat7.mono fun a o hm => hb3 _ (.tail _ (.tail _ hm))) h5 hdp7) ?_)
            · show dp + 1 + (2 * 2 + 5) < recursionLimit; omega
            · show 4 + 3 + (40 * 2 + 80) < cLine; omega
            rintro _ h₃ tk₃ F2 N2 ⟨tkc, rfl⟩
            clear F1 N1
            have hbody : (body ts2).length ≤ 38895 := body_bound (n := 2) (by omega) h5 hdp7
            have hpz : pv.length ≤ sizeLine := by rw [hM, sizeLine_eq]; omega
            walk_at "m_go"
            refine Paused.on (For_loop ?_)
            walk_at "m_go"
            refine Paused.on ?_
            (rename Fr _ _ _ _ => F3); (rename News _ _ _ _ => N3)
            rename_i tc0 kc0 hx1 hx0 tm km hx2 D4 w4 h4 hI4 hC4 hL4 hl4 D12 h12 hl12 Dn wn hn hIn hln
            have F4 := Fr_as (m' := lawM (some (.ref Dp2)) (some (.bytes bf.toArray bft)) (some (.bytes af.toArray aft)) (some (.ref Db)) pO (some (.bytes (bf ++ body ts2 ++ af).toArray tc0)) (some (.int (pv.length : Int) tm)) none none none none none sc) F3 (by walk_at "m_map3")
            have N4 : News s₁.heap L hn ((Dn, listOf wn.toArray 0) :: (Db, listOf bs.toArray nb) :: (Dp2, listOf pv.toArray 0) :: c2) := News.sub N3 fun p hp => by
              rcases List.mem_cons.mp hp with rfl | hp
              · exact .head _
              · exact .tail _ (.tail _ (.tail _ hp))
            have hndn : (((Dn, listOf wn.toArray 0) :: (Db, listOf bs.toArray nb) :: (Dp2, listOf pv.toArray 0) :: c2).map (·.1)).Nodup := by
              refine cons_nodup (fun q hq => ?_) hndb
              rcases List.mem_cons.mp hq with rfl | hq
              · exact Nat.ne_of_lt hln.2.2.1
              rcases List.mem_cons.mp hq with rfl | hq
              · exact Nat.ne_of_lt hln.2.2.2.1
              · exact Nat.ne_of_lt (allLt_mem hln.2.2.2.2 q hq)
            clear F3 N3 hln hl12 hl4 hL4 hC4 hI4
            have habv : s₁.heap.objs.size ≤ L := F4.above
            have hCz : (bf ++ body ts2 ++ af).length ≤ 16777216 := by rw [List.length_append, List.length_append]; omega
            generalize hCe : bf ++ body ts2 ++ af = C at *
            refine' loop_list (L := L) (items := wn.toArray) rfl rfl rfl rfl
              (fun i g' m' news' => i = i ∧ Stand w (ExcName.means s₀.heap) mg mb (arA dp 4 (some []) []) s₁.heap [] s₁.heap g' ∧ ∃ (nO iO jO sO eO : Option Value), news' = (Dn, listOf wn.toArray 0) :: (Db, listOf bs.toArray nb) :: (Dp2, listOf pv.toArray 0) :: c2 ∧
                m' = lawM (some (.ref Dp2)) (some (.bytes bf.toArray bft)) (some (.bytes af.toArray aft)) (some (.ref Db)) pO (some (.bytes C.toArray tc0)) (some (.int (pv.length : Int) tm)) nO iO jO sO eO sc)
              ?hl F4 N4 ⟨rfl, ⟨KtsTurn.refl, B, XB, TB, D⟩, none, none, none, none, none, rfl, rfl⟩ ?turn ?done
            case hl =>
              rintro i g' m' news' h' ⟨-, St, nO, iO, jO, sO, eO, rfl, _⟩ F' N'
              exact News.isList N' (.head _)
            case turn =>
              clear F4 N4
              rintro i v g' m' news' h' tk' I o hv ⟨-, St, nO, iO, jO, sO, eO, rfl, rfl⟩ F1 N1 hI
              obtain ⟨TK, B', X', T', D'⟩ := St
              obtain ⟨a, ta, rfl, -⟩ := hIn.at i v (by simpa using hv)
              have hM0 : (0 : Int) < (pv.length : Int) := by omega
              have hf0 := Int.fmod_nonneg_of_pos (Int.fdiv a 4) (b := (pv.length : Int)) hM0
              have hf1 := Int.fmod_lt_of_pos (Int.fdiv a 4) (b := (pv.length : Int)) hM0
              obtain ⟨p, hp⟩ : ∃ p : Nat, Int.fmod (Int.fdiv a 4) (pv.length : Int) = (p : Int) := ⟨_, (Int.toNat_of_nonneg hf0).symm⟩
              have hndI := cons_nodup (p := (I, o)) hI hndn
              walk_at "m_go"
              (rename Fr _ _ _ _ => F2); (rename News _ _ _ _ => N2)
              refine Paused.on ?_
              rw [hp] at F2 hf0 hf1 ⊢
              clear hp
              have hpM : p < ts2.length := by omega
              obtain ⟨r, hr, hpr, hrM⟩ : ∃ r : Nat, (p : Int) + 1 + Int.fmod (Int.fdiv a 64) ((pv.length : Int) - (p : Int)) = (r : Int) ∧ p < r ∧ r ≤ ts2.length := by
                have h0 := Int.fmod_nonneg_of_pos (Int.fdiv a 64) (b := (pv.length : Int) - (p : Int)) (by omega)
                have h1 := Int.fmod_lt_of_pos (Int.fdiv a 64) (b := (pv.length : Int) - (p : Int)) (by omega)
                exact ⟨((p : Int) + 1 + Int.fmod (Int.fdiv a 64) ((pv.length : Int) - (p : Int))).toNat, by omega, by omega, by omega⟩
              rw [hr] at F2
              clear hr hf0 hf1
              obtain ⟨ti, tj, F3⟩ : ∃ ti tj, Fr g' L _ (lawM (some (.ref Dp2)) (some (.bytes bf.toArray bft)) (some (.bytes af.toArray aft)) (some (.ref Db)) pO (some (.bytes C.toArray tc0)) (some (.int (pv.length : Int) tm)) (some (.int a ta)) (some (.int (p : Int) ti)) (some (.int (r : Int) tj)) sO eO sc) := ⟨_, _, Fr_as F2 (by walk_at "m_map3")⟩
              clear F2
              obtain ⟨tp, hPp⟩ := hbs.place (j := p) (by omega) (by omega) rfl
              obtain ⟨tr, hPr⟩ := hbs.place (j := r) hrM (by omega) rfl
              refine place_led N2 (by k_mem) hPp ?_
              walk_at "m_go"
              refine Paused.on (place_led N2 (by k_mem) hPr ?_)
              walk_at "m_go"
              refine Paused.on ?_
              have hbq : ∀ j, j ≤ ts2.length → ∃ t, PlaceAt bs (j : Int) (.int ((bf.length + (body (ts2.take j)).length : Nat) : Int) t) := fun j hj => hbs.place hj (by omega) rfl
              refine new_row B' F3 X' N2 T' rfl (by omega) (by omega) ?_
              intro rw1 h5 tk5 F5 N5 hfr1 l1 l2 l3
              clear F3 N2
              have hnd5 := row_led_nodup (w := w) hndI l1 l2 l3
              have hcl := take_cut_len (ts := ts2) (Nat.le_of_lt hpr)
              have hcut : CutAt pv (some (p : Int)) (some (r : Int)) (cut pv p r) := ⟨pick_cut (Nat.le_of_lt hpr) (by omega), hpz⟩
              have htc : AreTrees (inLed c2) (cut pv p r) (cut ts2 p r) := (hat7.drop p).take (r - p)
              have hc5 : (cut ts2 p r).length ≤ 5 := by rw [cut_len hrM]; omega
              have hcd : ∀ t ∈ cut ts2 p r, Deep 2 t := fun t ht => hdp7 t (cut_mem ht)
              walk_at "m_go"
              refine Paused.on (cut_led (s := ⟨_, _, _, _, _⟩) F5 N5 (List.mem_append_right _ (.tail _ (.tail _ (.tail _ (.head _))))) (.int _ _) (.int _ _) hcut ?_ (by with_unfolding_all rfl) (by intro _; with_unfolding_all rfl))
              intro Dk h6 F6 N6 hl6
              clear F5 N5
              walk_at "m_go"
              refine Paused.on (place_led N6 (.tail _ (List.mem_append_right _ (.tail _ (.tail _ (.head _))))) hPp ?_)
              walk_at "m_go"
              refine Paused.on (place_led N6 (.tail _ (List.mem_append_right _ (.tail _ (.tail _ (.head _))))) hPr ?_)
              walk_at "m_go"
              refine Paused.on ?_
              have hnd6 : ((rowLed w rw1 ++ (Dk, listOf (cut pv p r).toArray 0) :: (I, o) :: (Dn, listOf wn.toArray 0) :: (Db, listOf bs.toArray nb) :: (Dp2, listOf pv.toArray 0) :: c2).map (·.1)).Nodup :=
                nodup_perm (cons_nodup (p := (Dk, listOf (cut pv p r).toArray 0)) (fun q hq => Nat.ne_of_lt (hl6 q hq)) hnd5) pull1
              refine callL (fp := rowLed w rw1) (rest := (Dk, listOf (cut pv p r).toArray 0) :: (I, o) :: (Dn, listOf wn.toArray 0) :: (Db, listOf bs.toArray nb) :: (Dp2, listOf pv.toArray 0) :: c2) XB TB B' D' F6 (News.perm N6 pull1) hnd6 rfl rfl rfl rfl ?_ ?_
                (fun b' _ _ hb3 => row_all 2 (by omega) b' rw1 Dk (cut pv p r) 0 (cut ts2 p r) C (bf.length + (body (ts2.take p)).length) _ _ _ _ _ _ _ (hb3 _ (.head _)) (htc.mono fun a o hm => hb3 _ (.tail _ (.tail _ (.tail _ (.tail _ (.tail _ hm)))))) hc5 hcd hCz (at_cut hCe.symm (Nat.le_of_lt hpr)) hfr1 rfl (by rw [hcl]; omega)) ?_
              · show dp + 1 + (2 + 30) < recursionLimit; omega
              · show 4 + 3 + (3 * 2 + 300) < cLine; omega
              rintro _ led' h7 tk7 g2 TK2 F7 N7 B2 X2 T2 D2 hnd7' ⟨rfl, rfl⟩
              have N8 : News g2 L h7 ((I, o) :: (Dn, listOf wn.toArray 0) :: (Db, listOf bs.toArray nb) :: (Dp2, listOf pv.toArray 0) :: c2) := News.sub N7 fun q hq => .tail _ hq
              clear N7 hnd7' N6 F6 hnd6 hnd5 hl6 l1 l2 l3 hfr1
              walk_at "m_go"
              refine Paused.on (place_led N8 (by k_mem) hPr ?_)
              walk_at "m_go"
              refine Paused.on (place_led N8 (by k_mem) hPr ?_)
              walk_at "m_go"
              refine Paused.on ?_
              refine new_row B2 F7 X2 N8 T2 rfl (by omega) (by omega) ?_
              intro rw2 h8 tk8 F9 N9 hfr2 l1 l2 l3
              clear F7 N8
              have hnd9 := row_led_nodup (w := w) hndI l1 l2 l3
              walk_at "m_go"
              (rename Fr _ _ _ _ => F10); (rename News _ _ _ _ => N10)
              rename_i De hE hlE
              refine Paused.on (place_led N10 (.tail _ (List.mem_append_right _ (.tail _ (.tail _ (.head _))))) hPr ?_)
              walk_at "m_go"
              refine Paused.on (place_led N10 (.tail _ (List.mem_append_right _ (.tail _ (.tail _ (.head _))))) hPr ?_)
              walk_at "m_go"
              have hnd10 : ((rowLed w rw2 ++ (De, listOf ([] : List Value).toArray 0) :: (I, o) :: (Dn, listOf wn.toArray 0) :: (Db, listOf bs.toArray nb) :: (Dp2, listOf pv.toArray 0) :: c2).map (·.1)).Nodup :=
                nodup_perm (cons_nodup (p := (De, listOf ([] : List Value).toArray 0)) (fun q hq => Nat.ne_of_lt (hlE q hq)) hnd9) pull1
              refine Paused.on ?_
              have N10' : News g2 L hE ((De, listOf ([] : List Value).toArray 0) :: (rowLed w rw2 ++ (I, o) :: (Dn, listOf wn.toArray 0) :: (Db, listOf bs.toArray nb) :: (Dp2, listOf pv.toArray 0) :: c2)) := N10
              refine callL (fp := rowLed w rw2) (rest := (De, listOf ([] : List Value).toArray 0) :: (I, o) :: (Dn, listOf wn.toArray 0) :: (Db, listOf bs.toArray nb) :: (Dp2, listOf pv.toArray 0) :: c2) XB TB B2 D2 F10 (News.perm N10' pull1) hnd10 rfl rfl rfl rfl ?_ ?_
                (fun b' _ _ hb3 => row_all 2 (by omega) b' rw2 De [] 0 [] C (bf.length + (body (ts2.take r)).length) _ _ _ _ _ _ _ (hb3 _ (.head _)) AreTrees.nil (by decide) (fun t ht => nomatch ht) hCz (by have h := at_cut (a := r) (b := r) hCe.symm (Nat.le_refl _); rwa [show body (cut ts2 r r) = body [] from by rw [cut, Nat.sub_self]; rfl] at h) hfr2 rfl (by simp [body])) ?_
              · show dp + 1 + (2 + 30) < recursionLimit; omega
              · show 4 + 3 + (3 * 2 + 300) < cLine; omega
              rintro _ led' h11 tk11 g3 TK3 F11 N11 B3 X3 T3 D3 hnd11 ⟨rfl, rfl⟩
              have N12 : News g3 L h11 ((I, o) :: (Dn, listOf wn.toArray 0) :: (Db, listOf bs.toArray nb) :: (Dp2, listOf pv.toArray 0) :: c2) := News.sub N11 fun q hq => .tail _ hq
              clear N11 hnd11 N10 N10' F10 hnd10 hnd9 hlE l1 l2 l3 hfr2
              obtain ⟨tr', hPr'⟩ := hbs.place (j := r - 1) (e := (r : Int) - 1) (by omega) (by omega) (by omega)
              walk_at "m_go"
              refine Paused.on (place_led N12 (by k_mem) hPr ?_)
              walk_at "m_go"
              refine Paused.on (place_led N12 (by k_mem) hPr' ?_)
              have hlen_r : ((bf.length + (body (ts2.take r)).length : Nat) : Int) - ((bf.length + (body (ts2.take (r - 1))).length : Nat) : Int) = ((body (ts2.take r)).length : Int) - ((body (ts2.take (r - 1))).length : Int) := by omega
              walk_at "m_go"
              · (rename Fr _ _ _ _ => F13); (rename News _ _ _ _ => N13); (rename (1 : Int) < _ => hsz)
                rw [hlen_r] at F13 hsz
                clear hlen_r
                generalize hsz0 : ((body (ts2.take r)).length : Int) - ((body (ts2.take (r - 1))).length : Int) = sz at *
                have hg0 := Int.fmod_nonneg_of_pos (Int.fdiv a 4096) (b := sz - 1) (by omega)
                have hg1 := Int.fmod_lt_of_pos (Int.fdiv a 4096) (b := sz - 1) (by omega)
                obtain ⟨tsz, F14⟩ : ∃ tsz, Fr g3 L _ (lawM (some (.ref Dp2)) (some (.bytes bf.toArray bft)) (some (.bytes af.toArray aft)) (some (.ref Db)) pO (some (.bytes C.toArray tc0)) (some (.int (pv.length : Int) tm)) (some (.int a ta)) (some (.int (p : Int) ti)) (some (.int (r : Int) tj)) (some (.int sz tsz)) eO sc) := ⟨_, Fr_as F13 (by walk_at "m_map3")⟩
                clear F13
                refine Paused.on (place_led N13 (by k_mem) hPr ?_)
                walk_at "m_go"
                (rename Fr _ _ _ _ => F15); (rename News _ _ _ _ => N15)
                refine Paused.on ?_
                generalize Int.fmod (Int.fdiv a 4096) (sz - 1) = x at *
                obtain ⟨ten, F16⟩ : ∃ ten, Fr g3 L _ (lawM (some (.ref Dp2)) (some (.bytes bf.toArray bft)) (some (.bytes af.toArray aft)) (some (.ref Db)) pO (some (.bytes C.toArray tc0)) (some (.int (pv.length : Int) tm)) (some (.int a ta)) (some (.int (p : Int) ti)) (some (.int (r : Int) tj)) (some (.int sz tsz)) (some (.int (((bf.length + (body (ts2.take r)).length : Nat) : Int) - 1 - x) ten)) sc) := ⟨_, Fr_as F15 (by walk_at "m_map3")⟩
                clear F15
                refine place_led N15 (by k_mem) hPp ?_
                walk_at "m_go"
                refine Paused.on ?_
                refine new_row B3 F16 X3 N15 T3 rfl (by omega) (by omega) ?_
                intro rw3 h16 tk16 F17 N17 hfr3 l1 l2 l3
                clear F16 N15
                have hnd17 := row_led_nodup (w := w) hndI l1 l2 l3
                walk_at "m_go"
                refine Paused.on (cut_led (s := ⟨_, _, _, _, _⟩) F17 N17 (List.mem_append_right _ (.tail _ (.tail _ (.tail _ (.head _))))) (.int _ _) (.int _ _) hcut ?_ (by with_unfolding_all rfl) (by intro _; with_unfolding_all rfl))
                intro Dk3 h18 F18 N18 hl18
                clear F17 N17
                walk_at "m_go"
                refine Paused.on (place_led N18 (.tail _ (List.mem_append_right _ (.tail _ (.tail _ (.head _))))) hPr ?_)
                walk_at "m_go"
                have hnd18 : ((rowLed w rw3 ++ (Dk3, listOf (cut pv p r).toArray 0) :: (I, o) :: (Dn, listOf wn.toArray 0) :: (Db, listOf bs.toArray nb) :: (Dp2, listOf pv.toArray 0) :: c2).map (·.1)).Nodup :=
                  nodup_perm (cons_nodup (p := (Dk3, listOf (cut pv p r).toArray 0)) (fun q hq => Nat.ne_of_lt (hl18 q hq)) hnd17) pull1
                have hov := fun (b' : Heap) (hb3 : ∀ q ∈ (Dk3, listOf (cut pv p r).toArray 0) :: (I, o) :: (Dn, listOf wn.toArray 0) :: (Db, listOf bs.toArray nb) :: (Dp2, listOf pv.toArray 0) :: c2, b'.get? q.1 = some q.2) =>
                  law_over (w := w) (mean := ExcName.means s₀.heap) (mg := mg) (mb := mb) (b := b') (r := rw3) (ka := Dk3) (vs := cut pv p r) (k := 0) (n := 2) (p := bf.length + (body (ts2.take p)).length) (ts := cut ts2 p r) (over := ((bf.length + (body (ts2.take r)).length : Nat) : Int)) (to := tr) (by omega)
                    (hb3 _ (.head _)) (htc.mono fun a o hm => hb3 _ (.tail _ (.tail _ (.tail _ (.tail _ (.tail _ hm)))))) hc5 hcd (by rw [hfr3.code]; exact hCz) (by rw [hfr3.code]; exact at_cut hCe.symm (Nat.le_of_lt hpr)) hfr3.idx hfr3.len hfr3.els (by rw [hcl]; omega)
                    (fun i hi => by
                      rw [cut_len hrM] at hi
                      have := cut_below (ts := ts2) (a := p) (b := r) hi
                      rw [hfr3.last]; omega)
                    (by rw [hfr3.last]; omega)
                refine Paused.on (callL (fp := rowLed w rw3) (rest := (Dk3, listOf (cut pv p r).toArray 0) :: (I, o) :: (Dn, listOf wn.toArray 0) :: (Db, listOf bs.toArray nb) :: (Dp2, listOf pv.toArray 0) :: c2) XB TB B3 D3 F18 (News.perm N18 pull1) hnd18 rfl rfl rfl rfl ?_ ?_ (fun b' _ _ hb3 => hov b' hb3) ?_)
                · show dp + 1 + 30 < recursionLimit; omega
                · show 4 + 3 + 300 < cLine; omega
                rintro _ led' h19 tk19 g4 TK4 F19 N19 B4 X4 T4 D4' hnd19 ⟨rfl, rfl⟩
                have N20 : News g4 L h19 ((I, o) :: (Dn, listOf wn.toArray 0) :: (Db, listOf bs.toArray nb) :: (Dp2, listOf pv.toArray 0) :: c2) := News.sub N19 fun q hq => .tail _ hq
                clear N19 hnd19 N18 F18 hnd18 hnd17 hl18 l1 l2 l3 hfr3 hov
                walk_at "m_go"
                (rename Fr _ _ _ _ => F21); (rename News _ _ _ _ => N21)
                exact ⟨g4, _, _, _, _, rfl, F21, N21, hI, trivial, ⟨TK.trans (TK2.trans (TK3.trans TK4)), B4, X4, T4, D4'⟩, _, _, _, _, _, rfl, by walk_at "m_map3"⟩
              · (rename Fr _ _ _ _ => F13); (rename News _ _ _ _ => N13)
                exact ⟨g3, _, _, _, _, rfl, F13, N13, hI, trivial, ⟨TK.trans (TK2.trans TK3), B3, X3, T3, D3⟩, _, _, _, _, _, rfl, by walk_at "m_map3"⟩
            case done =>
              clear F4 N4
              rintro g' m' news' h' tk' ⟨-, St, nO, iO, jO, sO, eO, rfl, rfl⟩ F1 N1
              obtain ⟨TK, B', X', T', D'⟩ := St
              obtain ⟨t0, hP0⟩ := hbs.place (j := 0) (e := 0) (by omega) (by omega) rfl
              obtain ⟨tm1, hPm⟩ := hbs.place (j := ts2.length - 1) (e := (pv.length : Int) - 1) (by omega) (by omega) (by omega)
              obtain ⟨tm2, hPn⟩ := hbs.place (j := ts2.length) (e := (pv.length : Int)) (by omega) (by omega) (by omega)
              have hcut : CutAt pv none (some ((pv.length : Int) - 1)) (cut pv 0 (ts2.length - 1)) := ⟨by
                rw [show (pv.length : Int) - 1 = ((ts2.length - 1 : Nat) : Int) by omega, pick_to (by omega), cut_to], hpz⟩
              have htc : AreTrees (inLed c2) (cut pv 0 (ts2.length - 1)) (cut ts2 0 (ts2.length - 1)) := (hat7.drop 0).take (ts2.length - 1 - 0)
              have hcl := take_cut_len (ts := ts2) (a := 0) (b := ts2.length - 1) (by omega)
              have hcl2 := take_cut_len (ts := ts2) (a := 0) (b := ts2.length) (by omega)
              rw [cut_all] at hcl2
              have hc5 : (cut ts2 0 (ts2.length - 1)).length ≤ 5 := by rw [cut_len (by omega)]; omega
              have hcd : ∀ t ∈ cut ts2 0 (ts2.length - 1), Deep 2 t := fun t ht => hdp7 t (cut_mem ht)
              have hac2 := at_cut (a := 0) (b := ts2.length) hCe.symm (by omega)
              rw [cut_all] at hac2
              walk_at "m_go"
              refine Paused.on (place_led N1 (by k_mem) hP0 ?_)
              walk_at "m_go"
              refine Paused.on (place_led N1 (by k_mem) hPm ?_)
              walk_at "m_go"
              refine Paused.on ?_
              refine new_row B' F1 X' N1 T' rfl (by omega) (by omega) ?_
              intro rw1 hh5 tk5 F5 N5 hfr1 l1 l2 l3
              clear F1 N1
              have hnd5 := row_led_nodup (w := w) hndn l1 l2 l3
              walk_at "m_go"
              refine Paused.on (cut_led (s := ⟨_, _, _, _, _⟩) F5 N5 (List.mem_append_right _ (.tail _ (.tail _ (.head _)))) .none (.int _ _) hcut ?_ (by with_unfolding_all rfl) (by intro _; with_unfolding_all rfl))
              intro Dk h6 F6 N6 hl6
              clear F5 N5
              walk_at "m_go"
              refine Paused.on (place_led N6 (.tail _ (List.mem_append_right _ (.tail _ (.head _)))) hP0 ?_)
              walk_at "m_go"
              refine Paused.on (place_led N6 (.tail _ (List.mem_append_right _ (.tail _ (.head _)))) hPm ?_)
              walk_at "m_go"
              refine Paused.on ?_
              have hnd6 : ((rowLed w rw1 ++ (Dk, listOf (cut pv 0 (ts2.length - 1)).toArray 0) :: (Dn, listOf wn.toArray 0) :: (Db, listOf bs.toArray nb) :: (Dp2, listOf pv.toArray 0) :: c2).map (·.1)).Nodup :=
                nodup_perm (cons_nodup (p := (Dk, listOf (cut pv 0 (ts2.length - 1)).toArray 0)) (fun q hq => Nat.ne_of_lt (hl6 q hq)) hnd5) pull1
              refine callL (fp := rowLed w rw1) (rest := (Dk, listOf (cut pv 0 (ts2.length - 1)).toArray 0) :: (Dn, listOf wn.toArray 0) :: (Db, listOf bs.toArray nb) :: (Dp2, listOf pv.toArray 0) :: c2) XB TB B' D' F6 (News.perm N6 pull1) hnd6 rfl rfl rfl rfl ?_ ?_
                (fun b' _ _ hb3 => row_all 2 (by omega) b' rw1 Dk (cut pv 0 (ts2.length - 1)) 0 (cut ts2 0 (ts2.length - 1)) C (bf.length + (body (ts2.take 0)).length) _ _ _ _ _ _ _ (hb3 _ (.head _)) (htc.mono fun a o hm => hb3 _ (.tail _ (.tail _ (.tail _ (.tail _ hm))))) hc5 hcd hCz (at_cut hCe.symm (by omega)) hfr1 rfl (by rw [hcl]; omega)) ?_
              · show dp + 1 + (2 + 30) < recursionLimit; omega
              · show 4 + 3 + (3 * 2 + 300) < cLine; omega
              rintro _ led' h7 tk7 g2 TK2 F7 N7 B2 X2 T2 D2 hnd7' ⟨rfl, rfl⟩
              have N8 : News g2 L h7 ((Dn, listOf wn.toArray 0) :: (Db, listOf bs.toArray nb) :: (Dp2, listOf pv.toArray 0) :: c2) := News.sub N7 fun q hq => .tail _ hq
              clear N7 hnd7' N6 F6 hnd6 hnd5 hl6 l1 l2 l3 hfr1
              walk_at "m_go"
              refine Paused.on (place_led N8 (by k_mem) hP0 ?_)
              walk_at "m_go"
              refine Paused.on (place_led N8 (by k_mem) hPn ?_)
              walk_at "m_go"
              refine Paused.on ?_
              refine new_row B2 F7 X2 N8 T2 rfl (by omega) (by omega) ?_
              intro rw2 h8 tk8 F9 N9 hfr2 l1 l2 l3
              clear F7 N8
              have hnd9 := row_led_nodup (w := w) hndn l1 l2 l3
              walk_at "m_go"
              refine Paused.on (place_led N9 (List.mem_append_right _ (.tail _ (.head _))) hP0 ?_)
              walk_at "m_go"
              refine Paused.on (place_led N9 (List.mem_append_right _ (.tail _ (.head _))) hPn ?_)
              walk_at "m_go"
              refine Paused.on ?_
              refine callL (fp := rowLed w rw2) (rest := (Dn, listOf wn.toArray 0) :: (Db, listOf bs.toArray nb) :: (Dp2, listOf pv.toArray 0) :: c2) XB TB B2 D2 F9 N9 hnd9 rfl rfl rfl rfl ?_ ?_
                (fun b' _ _ hb3 => row_all 2 (by omega) b' rw2 Dp2 pv 0 ts2 C (bf.length + (body (ts2.take 0)).length) _ _ _ _ _ _ _ (hb3 _ (.tail _ (.tail _ (.head _)))) (hat7.mono fun a o hm => hb3 _ (.tail _ (.tail _ (.tail _ hm)))) h5 hdp7 hCz hac2 hfr2 rfl (by rw [hcl2]; omega)) ?_
              · show dp + 1 + (2 + 30) < recursionLimit; omega
              · show 4 + 3 + (3 * 2 + 300) < cLine; omega
              rintro _ led' h10 tk10 g3 TK3 F10 N10 B3 X3 T3 D3 hnd10 ⟨rfl, rfl⟩
              walk_at "m_go"
              exact ⟨rfl, _, _, _, rfl, ⟨F10.ns, fun b o e => F10.keep b o (B3.stays b o e), habv⟩⟩
    · show ys.length + 2 ≤ sizeLine
      rw [sizeLine_eq, hat3.1, hts3]; omega

end Mine

set_option maxRecDepth 100000 in
set_option maxHeartbeats 8000000 in
theorem PySem.Challenge.cw_eg5038_01_holds : PySem.Challenge.rw_eg5038_01.Holds :=
  Mine.whole
